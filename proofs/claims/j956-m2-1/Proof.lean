import JvmDerived
import JvmDerived.Pilot.@@N@@Statement
import JvmDerived.Pilot.@@N@@Code
set_option linter.unusedVariables false
set_option linter.unusedSimpArgs false
namespace Jvm.RoadKit
open Sem ClassFile Op Lib Jvm.Stand Jvm.Free Jvm.LawKit
section New
variable {p : Program} {l : Launch} {e : Env} {R : Room} {s : State} {m : MethodId} {args : Array Value} {below : List Frame} {meth : Method} {c : Code} {T : State} {locs : List Loc} {cells slots : Nat}
theorem retI (X : Stand p l e R s m args below meth c T locs cells slots) (hx : p.tables.exec = Jvm.exec) {pc : Nat} {Ls : Array Slot} {z : Int32} {rest : List Value} (hret : meth.sig.returnType = some .int) (hd : decode c.code pc = .ok (.ireturn, 1)) {fs : List Frame}
    (hl : ∀ (f : JFrame) (acts : List Action), f.method = m → f.locked = none → f.entered = [] → (doReturn e (T.setTop f) acts (some (.int z))).1 = T.setFrames fs) : Steps p.tables e below (T.setTop (mkF m pc Ls (.int z :: rest))) (T.setFrames fs) := by
  have hm' : T.vm.method? m = some meth := X.method'
  have hn : narrow .int (.int z) = .int z := rfl
  show Steps p.tables e below (T.setTop { method := m, pc := pc, locals := Ls, stack := _ :: rest, locked := none }) _
  jvm_step X.here [X.here.top, hx, hd, hm', hret, hn]
  first | (intro acts; rw [hl _ acts rfl rfl rfl]) | rw [hl _ _ rfl rfl rfl]
  exact Steps.refl _
end New
end Jvm.RoadKit
namespace Jvm.Pilot.@@N@@
open Jvm Jvm.ClassFile Sem Op Lib Jvm.Free Jvm.Stand Jvm.LawKit Jvm.RoadKit Bundle Jvm.Pilot.@@N@@.Jvm.D
theorem own_eqI {t : Term} {n : Int32} {args : Array Value} {s : State} (h : (Jvm.Cond.eq t (.int n)).value args s none s [] = some true) : t.eval args s none [] s = some (.int n) := by
  simp only [Cond.value, Term.eval] at h
  cases ht : t.eval args s none [] s with
  | none => simp [ht] at h
  | some x => cases x <;> simp [ht] at h ⊢; exact h
theorem own_eqJ {t : Term} {n : Int64} {args : Array Value} {s : State} (h : (Jvm.Cond.eq t (.long n)).value args s none s [] = some true) : t.eval args s none [] s = some (.long n) := by
  simp only [Cond.value, Term.eval] at h
  cases ht : t.eval args s none [] s with
  | none => simp [ht] at h
  | some x => cases x <;> simp [ht] at h ⊢; exact h
theorem own_eqR {t u : Term} {a : Addr} {args : Array Value} {s : State} (h : (Jvm.Cond.eq t u).value args s none s [] = some true) (hu : u.eval args s none [] s = some (.ref a)) : t.eval args s none [] s = some (.ref a) := by
  simp only [Cond.value, hu] at h
  cases ht : t.eval args s none [] s with
  | none => simp [ht] at h
  | some x => cases x <;> simp [ht] at h ⊢; exact h
theorem own_len {t : Term} {w : Addr} {c : Cell} {ty : FieldType} {n : Int32} {args : Array Value} {s : State} (ev : t.eval args s none [] s = some (.ref w)) (A : Arr s s.heap w c ty) (h : (Term.length t).eval args s none [] s = some (.int n)) (hn : ¬ n < 0) : c.slots.size = n.toNatClampNeg := by
  simp only [Term.eval, ev, A.fin (Vm.Alike.refl _), Option.bind_eq_bind, Option.bind_some] at h
  split at h
  · rename_i hl
    have q : c.slots.size.toInt32 = n := by simpa using h
    rw [← q]
    have q2 : c.slots.size.toInt32.toInt = (c.slots.size : Int) := len_toInt hl
    have q3 := nat_of (j := c.slots.size.toInt32) (by rw [q]; exact hn)
    omega
  · simp at h
theorem own_extW {Z : State} {h h' : Heap} {a : Addr} {sl : Nat} {v : Value} (X : Ext Z.heap h) (W : Wr h h' a sl v) (q : Z.heap.size ≤ a) : Ext Z.heap h' := (Old.wr (Z := Z) ⟨rfl, X⟩ W q).2
theorem own_ext2 {h h' h'' : Heap} (X : Ext h h') (E : Ext h' h'') : Ext h h'' := ⟨Nat.le_trans X.1 E.1, fun x c q => E.2 x c (X.2 x c q)⟩
theorem own_extK {Z : State} {h h' : Heap} {ws : List Addr} (X : Ext Z.heap h) (K : Keep h h' ws) (q : ∀ x ∈ ws, Z.heap.size ≤ x) : Ext Z.heap h' := (Old.keep (Z := Z) ⟨rfl, X⟩ K q).2
theorem own_neI {t : Term} {n x : Int32} {args : Array Value} {s : State} (h : (Jvm.Cond.eq t (.int n)).value args s none s [] = some (!true)) (ev : t.eval args s none [] s = some (.int x)) : ¬ (x = n) := by
  intro q
  subst q
  simp [Cond.value, Term.eval, ev] at h
theorem own_nsRoot {Z : State} {a0 : Array Value} {O K : String} {n : Nat} (w : (Jvm.Cond.noSuperclass O).before a0 Z = true) (wk : (Jvm.Cond.instantiable K n).before a0 Z = true) (hn : O ≠ K) : NS Z O K := by
  obtain ⟨c, k, h1, h2, h3, -, -⟩ := Cond.noSuperclass_spec w
  obtain ⟨t, k', g1, -⟩ := Cond.instantiable_spec wk
  have ne := ids_ne h1 g1 hn
  refine ⟨c, t, h1, g1, fun fuel => ?_⟩
  cases fuel with
  | zero => rfl
  | succ f => simp [Vm.isSubclassAux, ne, h2, h3]
theorem own_nsNo {Z : State} {a0 : Array Value} {C S K : String} {n : Nat} (w : (Jvm.Cond.superclass C S).before a0 Z = true) (wk : (Jvm.Cond.instantiable K n).before a0 Z = true) (N : NS Z C K) (hn : C ≠ K) : ∃ c t, Z.vm.findClass C = some c ∧ Z.vm.findClass K = some t ∧ Z.vm.assignable c t = false := by
  obtain ⟨c, t, h0, g0, n3⟩ := N
  obtain ⟨p, k, kp, h1, h2, h3, h4, h5, -, h7⟩ := Cond.superclass_spec h0 w
  obtain ⟨q, k', g1, g2, g5, g7, -, -⟩ := Cond.instantiable_spec wk
  cases g0.symm.trans g1
  have ne := ids_ne h0 g0 hn
  have gi : k'.isInterface = false := by cases hi : k'.isInterface <;> simp [hi] at g7 ⊢
  refine ⟨c, t, h0, g0, ?_⟩
  show Z.vm.assignableAux (255 + 1) c t = false
  simp [Vm.assignableAux, ne, h2, g2, h5, g5, gi, Vm.isSubclass, n3]
theorem own_nb (x : Int32) : nar .byte (x.toInt8.toInt32) = x.toInt8.toInt32 := by simp [nar]
abbrev own_S (p : Program) (e : Env) (below : List Frame) (T : State) (g : JFrame) (t : State) : Prop := Steps p.tables e below (T.setTop g) t
theorem own_w {Z : State} {a0 : Array Value} (hw : ∀ d ∈ tables_1, d.before a0 Z = true) {d : Jvm.Cond} (i : Nat) (h : tables_1[i]? = some d) : d.before a0 Z = true := hw _ (List.mem_of_getElem? h)
/-- a body's contract: what it returns and leaves -/
abbrev own_met (l : Launch) (y : MethodName) (b : ByteArray) (ml : Nat) (rt : Option FieldType) (ws : List Jvm.Cond) (R : Room) (Z : State) (A : Array Value) (h0 : Heap) (Q : Option Value → Heap → List Loc → Prop) : Prop :=
  MetFree l y (head1 (Jvm.Cond.code y b ml rt :: ws) R) (fun a U => a = A ∧ Z.Warmed39 U.vm ∧ U.heap = h0) (fun _ _ _ _ _ => True) (fun _ U o U' => ∃ v L, o = .returned v ∧ Q v U'.heap L ∧ FrameEnd U o U' L R.cells R.slots)
theorem own_start {l : Launch} {y : MethodName} {b : ByteArray} {ml : Nat} {rt : Option FieldType} {ws : List Jvm.Cond} {R : Room} {Z : State} {A : Array Value} {h0 : Heap} {Q : Option Value → Heap → List Loc → Prop} {Ls : Array Slot}
    (hpl : plainFor y = true) (hef : ∀ m, entryFrame m A ml = mkF m 0 Ls [])
    (body : ∀ p e s m below meth c s₁, p.tables.exec = Jvm.exec → c.code = b → c.maxLocals = ml → s.vm.findClass y.cls = some m.cls → meth.name = y.name → Stand p l e R s m A below meth c s₁ [] 0 0 → Z.Warmed39 s.vm → s₁.heap = h0 → meth.sig.returnType = rt → meth.locks = false →
      ∃ s₂ o, Steps p.tables e below (s₁.setTop (mkF m 0 Ls [])) s₂ ∧ s₂.status = .running ∧ Ended s₂ below o ∧ ∃ v L, o = .returned v ∧ Q v s₂.heap L ∧ FrameEnd s o s₂ L R.cells R.slots) : own_met l y b ml rt ws R Z A h0 Q := by
  refine MetFree.of_bodySF hpl hisR ?_
  intro p e s m args below meth c s₁ Bd hml0 hP hK
  obtain ⟨rfl, hZ, hh⟩ := hP
  obtain ⟨s₂, o, k, r⟩ := body p e s m below meth c s₁ Bd.exec Bd.bytes hml0 (findClass_of_methodNamed Bd.named) (name_of_methodNamed Bd.named Bd.method).1 (Stand.of_body Bd) hZ (by rw [← hh, Bd.state]; rfl) Bd.returns Bd.notSynchronized
  exact ⟨s₂, o, castTop (hef m) k, r⟩
section OwnCalls
variable {p : Program} {l : Launch} {e : Env} {R : Room} {s : State} {m : MethodId} {args : Array Value} {below : List Frame} {meth : Method} {c : Code} {T : State} {locs : List Loc} {cells slots : Nat} {Z : State} {a0 : Array Value} {h : Heap} {own : String} {index : Nat} {y z : MethodName} {b : ByteArray} {ml : Nat} {rt : Option FieldType} {rm : Room} {as' : Array Value} {Q : Option Value → Heap → List Loc → Prop} {W : Nat} {g : JFrame} {argsL rest : List Value}
theorem own_static (X : Stand p l e R s m args below meth c T locs cells slots) (hx : p.tables.exec = Jvm.exec) (hZ : Z.Warmed39 s.vm) (hown : s.vm.findClass own = some m.cls) (w1 : (Jvm.Cond.methodLink own index y).before a0 Z = true) (w2 : (Jvm.Cond.static y).before a0 Z = true) (w3 : (Jvm.Cond.initialized y.cls).before a0 Z = true) (w4 : (Jvm.Cond.code y b ml rt).before a0 Z = true)
    (hy : y.cls ≠ "java/lang/invoke/MethodHandle" ∧ y.cls ≠ "java/lang/invoke/VarHandle") (hM : own_met l y b ml rt [] rm Z as' h Q) (hf : rm.frames + 1 ≤ R.frames) (hl : W + (ml + 11) + rm.locals ≤ R.locals) (eT : T.heap = h) (hg : g.method = m) (hsize : g.locals.size = c.maxLocals) (hlen : ∀ sig, parseMethodDescriptor y.desc = some sig → argsL.length = sig.parameters.length) (ha : argsL.toArray = as')
    (hs : g.stack = argsL.reverse ++ rest) (hW : 2 * g.monitorRoom + (rest.map fun v => v.category).sum ≤ W) (hd : decode c.code g.pc = .ok (.invokestatic index, 3)) (hc : cells + rm.cells ≤ R.cells) (hsl : slots + rm.slots ≤ R.slots) :
    ∃ v T' L, Stand p l e R s m args below meth c T' (locs ++ L) (cells + rm.cells) (slots + rm.slots) ∧ Q v T'.heap L ∧ ∀ target, Steps p.tables e below (T'.setTop { g with pc := g.pc + 3, stack := v.toList ++ rest }) target → Steps p.tables e below (T.setTop g) target := by
  obtain ⟨v, _, ⟨T', L', k', n'⟩, -, X', ⟨Lc, hQ, l1, y1, z1⟩, st⟩ := Jvm.LawKit.callS X hx (y := y) hown (mvT hZ w1) (mvT hZ w2) (mvT hZ w3) (mvT hZ w4) hy (backOf (W := W) hM hZ w4 w3 hf hl) (g := g) hg hsize (argsL := argsL) (rest := rest) hlen hs hW hd (fun _ _ => ⟨ha, eT, hc, hsl⟩)
  dsimp only [Pt.U, Pt.locs, Pt.cells, Pt.slots] at X' l1 y1 z1 st hQ
  subst l1 y1 z1
  exact ⟨v, T', Lc, X', hQ, st⟩
theorem own_special (X : Stand p l e R s m args below meth c T locs cells slots) (hx : p.tables.exec = Jvm.exec) (hZ : Z.Warmed39 s.vm) (hown : s.vm.findClass own = some m.cls) (hn : y.name = "<init>") (w1 : (Jvm.Cond.methodLink own index y).before a0 Z = true) (w2 : (Jvm.Cond.instanceMethod y).before a0 Z = true) (w3 : (Jvm.Cond.initialized y.cls).before a0 Z = true) (w4 : (Jvm.Cond.code y b ml none).before a0 Z = true)
    (hy : y.cls ≠ "java/lang/invoke/MethodHandle" ∧ y.cls ≠ "java/lang/invoke/VarHandle") (hM : own_met l y b ml none [] rm Z as' h Q) (hf : rm.frames + 1 ≤ R.frames) (hl : W + (ml + 11) + rm.locals ≤ R.locals) (eT : T.heap = h) (hg : g.method = m) (hsize : g.locals.size = c.maxLocals) (a : Addr) (hlen : ∀ sig, parseMethodDescriptor y.desc = some sig → argsL.length = sig.parameters.length) (ha : (Value.ref a :: argsL).toArray = as')
    (hs : g.stack = argsL.reverse ++ .ref a :: rest) (hW : 2 * g.monitorRoom + (rest.map fun v => v.category).sum ≤ W) (hd : decode c.code g.pc = .ok (.invokespecial index, 3)) (hc : cells + rm.cells ≤ R.cells) (hsl : slots + rm.slots ≤ R.slots) :
    ∃ v T' L, Stand p l e R s m args below meth c T' (locs ++ L) (cells + rm.cells) (slots + rm.slots) ∧ Q v T'.heap L ∧ ∀ target, Steps p.tables e below (T'.setTop { g with pc := g.pc + 3, stack := v.toList ++ rest }) target → Steps p.tables e below (T.setTop g) target := by
  obtain ⟨v, _, ⟨T', L', k', n'⟩, -, X', ⟨Lc, hQ, l1, y1, z1⟩, st⟩ := X.specialBack hx (y := y) hn hown (mvT hZ w1) (mvT hZ w2) (mvT hZ w4) hy (backOf (W := W) hM hZ w4 w3 hf hl) (g := g) hg hsize (Steps.refl _) (a := a) (argsL := argsL) (rest := rest) hlen hs hW hd (fun _ _ => ⟨ha, eT, hc, hsl⟩)
  dsimp only [Pt.U, Pt.locs, Pt.cells, Pt.slots] at X' l1 y1 z1 st hQ
  subst l1 y1 z1
  exact ⟨v, T', Lc, X', hQ, fun _ k => st.trans k⟩
theorem own_virtual (X : Stand p l e R s m args below meth c T locs cells slots) (hx : p.tables.exec = Jvm.exec) (hZ : Z.Warmed39 s.vm) (hown : s.vm.findClass own = some m.cls) {C : String} (w1 : (Jvm.Cond.methodLink own index y).before a0 Z = true) (w5 : (Jvm.Cond.declares y).before a0 Z = true) (w6 : (Jvm.Cond.selects C y y).before a0 Z = true) (w2 : (Jvm.Cond.instanceMethod y).before a0 Z = true) (w3 : (Jvm.Cond.initialized y.cls).before a0 Z = true) (w4 : (Jvm.Cond.code y b ml rt).before a0 Z = true)
    (hy : y.cls ≠ "java/lang/invoke/MethodHandle" ∧ y.cls ≠ "java/lang/invoke/VarHandle") (hM : own_met l y b ml rt [] rm Z as' h Q) (hf : rm.frames + 1 ≤ R.frames) (hl : W + (ml + 11) + rm.locals ≤ R.locals) (eT : T.heap = h) {a : Addr} (E : Exa Z h a C) (hg : g.method = m) (hsize : g.locals.size = c.maxLocals) (hlen : ∀ sig, parseMethodDescriptor y.desc = some sig → argsL.length = sig.parameters.length) (ha : (Value.ref a :: argsL).toArray = as')
    (hs : g.stack = argsL.reverse ++ .ref a :: rest) (hW : 2 * g.monitorRoom + (rest.map fun v => v.category).sum ≤ W) (hd : decode c.code g.pc = .ok (.invokevirtual index, 3)) (hc : cells + rm.cells ≤ R.cells) (hsl : slots + rm.slots ≤ R.slots) :
    ∃ v T' L, Stand p l e R s m args below meth c T' (locs ++ L) (cells + rm.cells) (slots + rm.slots) ∧ Q v T'.heap L ∧ ∀ target, Steps p.tables e below (T'.setTop { g with pc := g.pc + 3, stack := v.toList ++ rest }) target → Steps p.tables e below (T.setTop g) target := by
  obtain ⟨cq, kq, qa, qb, qc⟩ := isOf hZ eT E
  obtain ⟨v, _, ⟨T', L', k', n'⟩, -, X', ⟨Lc, hQ, l1, y1, z1⟩, st⟩ := X.virtualBack hx (y := y) (z := y) hown (mvT hZ w1) (mvT hZ w5) (notFace_of_selects (args := #[]) (mvT hZ w6)) (mvT hZ w6) (mvT hZ w2) hy (backOf (W := W) hM hZ w4 w3 hf hl) qa qc (g := g) hg hsize (Steps.refl _) (argsL := argsL) (rest := rest) hlen hs hW hd (fun _ _ => ⟨ha, eT, hc, hsl⟩)
  dsimp only [Pt.U, Pt.locs, Pt.cells, Pt.slots] at X' l1 y1 z1 st hQ
  subst l1 y1 z1
  exact ⟨v, T', Lc, X', hQ, fun _ k => st.trans k⟩
theorem own_virtualUp (X : Stand p l e R s m args below meth c T locs cells slots) (hx : p.tables.exec = Jvm.exec) (hZ : Z.Warmed39 s.vm) (hown : s.vm.findClass own = some m.cls) {C owner : String} (w1 : (Jvm.Cond.methodLink own index z).before a0 Z = true) (w7 : (Jvm.Cond.sameMethod z.cls owner z.name z.desc).before a0 Z = true) (w5 : (Jvm.Cond.declares ⟨owner, z.name, z.desc⟩).before a0 Z = true) (w6 : (Jvm.Cond.selects C z y).before a0 Z = true) (w2 : (Jvm.Cond.instanceMethod y).before a0 Z = true) (w3 : (Jvm.Cond.initialized y.cls).before a0 Z = true) (w4 : (Jvm.Cond.code y b ml rt).before a0 Z = true)
    (hy : owner ≠ "java/lang/invoke/MethodHandle" ∧ owner ≠ "java/lang/invoke/VarHandle") (hM : own_met l y b ml rt [] rm Z as' h Q) (hf : rm.frames + 1 ≤ R.frames) (hl : W + (ml + 11) + rm.locals ≤ R.locals) (eT : T.heap = h) {a : Addr} (E : Exa Z h a C) (hg : g.method = m) (hsize : g.locals.size = c.maxLocals) (hlen : ∀ sig, parseMethodDescriptor z.desc = some sig → argsL.length = sig.parameters.length) (ha : (Value.ref a :: argsL).toArray = as')
    (hs : g.stack = argsL.reverse ++ .ref a :: rest) (hW : 2 * g.monitorRoom + (rest.map fun v => v.category).sum ≤ W) (hd : decode c.code g.pc = .ok (.invokevirtual index, 3)) (hc : cells + rm.cells ≤ R.cells) (hsl : slots + rm.slots ≤ R.slots) :
    ∃ v T' L, Stand p l e R s m args below meth c T' (locs ++ L) (cells + rm.cells) (slots + rm.slots) ∧ Q v T'.heap L ∧ ∀ target, Steps p.tables e below (T'.setTop { g with pc := g.pc + 3, stack := v.toList ++ rest }) target → Steps p.tables e below (T.setTop g) target := by
  obtain ⟨cq, kq, qa, qb, qc⟩ := isOf hZ eT E
  obtain ⟨v, _, ⟨T', L', k', n'⟩, -, X', ⟨Lc, hQ, l1, y1, z1⟩, st⟩ := X.virtualBackUp hx (x := z) (y := y) (owner := owner) hown (mvT hZ w1) (mvT hZ w7) (mvT hZ w5) hy (mvT hZ w6) (mvT hZ w2) (backOf (W := W) hM hZ w4 w3 hf hl) qa qc (g := g) hg hsize (Steps.refl _) (argsL := argsL) (rest := rest) hlen hs hW hd (fun _ _ => ⟨ha, eT, hc, hsl⟩)
  dsimp only [Pt.U, Pt.locs, Pt.cells, Pt.slots] at X' l1 y1 z1 st hQ
  subst l1 y1 z1
  exact ⟨v, T', Lc, X', hQ, fun _ k => st.trans k⟩
end OwnCalls

theorem own_split (p1 : Int32) : ((p1 &&& (2147483647 : Int32)) % (3 : Int32)) = (0 : Int32) ∨ ((p1 &&& (2147483647 : Int32)) % (3 : Int32)) = (1 : Int32) ∨ ((p1 &&& (2147483647 : Int32)) % (3 : Int32)) = (2 : Int32) := by
  have h := c_mask p1 (2147483647 : Int32) 31 (by decide) (by decide)
  have hk : ((2 ^ 31 : Nat) : Int) = 2147483648 := by decide
  rw [hk] at h
  have h2 := (c_irem (p1 &&& (2147483647 : Int32)) (3 : Int32) 3 (by decide)).1 (by omega)
  have q : (((p1 &&& (2147483647 : Int32)) % (3 : Int32))).toInt = 0 ∨ (((p1 &&& (2147483647 : Int32)) % (3 : Int32))).toInt = 1 ∨ (((p1 &&& (2147483647 : Int32)) % (3 : Int32))).toInt = 2 := by omega
  rcases q with q | q | q
  · exact Or.inl (Int32.toInt_inj.mp (q.trans (by decide)))
  · exact Or.inr (Or.inl (Int32.toInt_inj.mp (q.trans (by decide))))
  · exact Or.inr (Or.inr ((Int32.toInt_inj.mp (q.trans (by decide)))))
theorem own_split2 (p2 : Int32) : (p2 &&& (1 : Int32)) = (0 : Int32) ∨ (p2 &&& (1 : Int32)) = (1 : Int32) := by
  have h := c_mask p2 (1 : Int32) 1 (by decide) (by decide)
  have hk : ((2 ^ 1 : Nat) : Int) = 2 := by decide
  rw [hk] at h
  have q : ((p2 &&& (1 : Int32))).toInt = 0 ∨ ((p2 &&& (1 : Int32))).toInt = 1 := by omega
  rcases q with q | q
  · exact Or.inl (Int32.toInt_inj.mp (q.trans (by decide)))
  · exact Or.inr ((Int32.toInt_inj.mp (q.trans (by decide))))
theorem pn_0 : plainName "com/example/zia_tally/ziatally/evaluation/MethodOutcomePinLaw" = true := by first | (simp [plainName, overriddenIn]; done) | decide +kernel
theorem pn_1 : plainName "com/example/zia_tally/ziatally/evaluation/Method" = true := by first | (simp [plainName, overriddenIn]; done) | decide +kernel
theorem pd_0 : parseMethodDescriptor "(I)Lcom/example/zia_tally/ziatally/evaluation/Method;" = some ⟨[.int], some (.object "com/example/zia_tally/ziatally/evaluation/Method")⟩ := by decide +kernel
theorem pd_1 : parseMethodDescriptor "(Z)Lcom/example/zia_tally/ziatally/evaluation/Outcome;" = some ⟨[.boolean], some (.object "com/example/zia_tally/ziatally/evaluation/Outcome")⟩ := by decide +kernel
theorem pd_2 : parseMethodDescriptor "(IZ)Lcom/example/zia_tally/ziatally/evaluation/Outcome;" = some ⟨[.int, .boolean], some (.object "com/example/zia_tally/ziatally/evaluation/Outcome")⟩ := by decide +kernel
abbrev y_0 : MethodName := ⟨"com/example/zia_tally/ziatally/evaluation/MethodOutcomePinLaw", "pick", "(I)Lcom/example/zia_tally/ziatally/evaluation/Method;"⟩
abbrev y_1 : MethodName := ⟨"com/example/zia_tally/ziatally/evaluation/Method", "outcome", "(Z)Lcom/example/zia_tally/ziatally/evaluation/Outcome;"⟩
abbrev y_2 : MethodName := ⟨"com/example/zia_tally/ziatally/evaluation/MethodOutcomePinLaw", "expected", "(IZ)Lcom/example/zia_tally/ziatally/evaluation/Outcome;"⟩
theorem d_method_2_0 : decode method_2_code 0 = .ok (.iload_n 0, 1) := by decide +kernel
theorem d_method_2_1 : decode method_2_code 1 = .ok (.ldc 7, 2) := by decide +kernel
theorem d_method_2_3 : decode method_2_code 3 = .ok (.iand, 1) := by decide +kernel
theorem d_method_2_4 : decode method_2_code 4 = .ok (.iconst 3, 1) := by decide +kernel
theorem d_method_2_5 : decode method_2_code 5 = .ok (.irem, 1) := by decide +kernel
theorem d_method_2_6 : decode method_2_code 6 = .ok (.istore_n 1, 1) := by decide +kernel
theorem d_method_2_7 : decode method_2_code 7 = .ok (.iload_n 1, 1) := by decide +kernel
theorem d_method_2_8 : decode method_2_code 8 = .ok (.ifCond .ne 7, 3) := by decide +kernel
theorem d_method_2_11 : decode method_2_code 11 = .ok (.getstatic 8, 3) := by decide +kernel
theorem d_method_2_14 : decode method_2_code 14 = .ok (.areturn, 1) := by decide +kernel
theorem d_prog_7_method_7_0 : decode prog_7_method_7_code 0 = .ok (.iload_n 1, 1) := by decide +kernel
theorem d_prog_7_method_7_1 : decode prog_7_method_7_code 1 = .ok (.ifCond .eq 10, 3) := by decide +kernel
theorem d_prog_7_method_7_11 : decode prog_7_method_7_code 11 = .ok (.aload_n 0, 1) := by decide +kernel
theorem d_prog_7_method_7_12 : decode prog_7_method_7_code 12 = .ok (.getfield 40, 3) := by decide +kernel
theorem d_prog_7_method_7_15 : decode prog_7_method_7_code 15 = .ok (.areturn, 1) := by decide +kernel
theorem d_method_3_0 : decode method_3_code 0 = .ok (.iload_n 0, 1) := by decide +kernel
theorem d_method_3_1 : decode method_3_code 1 = .ok (.ldc 7, 2) := by decide +kernel
theorem d_method_3_3 : decode method_3_code 3 = .ok (.iand, 1) := by decide +kernel
theorem d_method_3_4 : decode method_3_code 4 = .ok (.iconst 3, 1) := by decide +kernel
theorem d_method_3_5 : decode method_3_code 5 = .ok (.irem, 1) := by decide +kernel
theorem d_method_3_6 : decode method_3_code 6 = .ok (.istore_n 2, 1) := by decide +kernel
theorem d_method_3_7 : decode method_3_code 7 = .ok (.iload_n 2, 1) := by decide +kernel
theorem d_method_3_8 : decode method_3_code 8 = .ok (.ifCond .ne 15, 3) := by decide +kernel
theorem d_method_3_11 : decode method_3_code 11 = .ok (.iload_n 1, 1) := by decide +kernel
theorem d_method_3_12 : decode method_3_code 12 = .ok (.ifCond .eq 7, 3) := by decide +kernel
theorem d_method_3_19 : decode method_3_code 19 = .ok (.getstatic 26, 3) := by decide +kernel
theorem d_method_3_22 : decode method_3_code 22 = .ok (.areturn, 1) := by decide +kernel
theorem d_prog_7_method_7_4 : decode prog_7_method_7_code 4 = .ok (.aload_n 0, 1) := by decide +kernel
theorem d_prog_7_method_7_5 : decode prog_7_method_7_code 5 = .ok (.getfield 44, 3) := by decide +kernel
theorem d_prog_7_method_7_8 : decode prog_7_method_7_code 8 = .ok (.goto 7, 3) := by decide +kernel
theorem d_method_3_15 : decode method_3_code 15 = .ok (.getstatic 20, 3) := by decide +kernel
theorem d_method_3_18 : decode method_3_code 18 = .ok (.areturn, 1) := by decide +kernel
theorem d_method_2_15 : decode method_2_code 15 = .ok (.iload_n 1, 1) := by decide +kernel
theorem d_method_2_16 : decode method_2_code 16 = .ok (.iconst 1, 1) := by decide +kernel
theorem d_method_2_17 : decode method_2_code 17 = .ok (.if_icmp .ne 7, 3) := by decide +kernel
theorem d_method_2_20 : decode method_2_code 20 = .ok (.getstatic 14, 3) := by decide +kernel
theorem d_method_2_23 : decode method_2_code 23 = .ok (.areturn, 1) := by decide +kernel
theorem d_method_3_23 : decode method_3_code 23 = .ok (.iload_n 1, 1) := by decide +kernel
theorem d_method_3_24 : decode method_3_code 24 = .ok (.ifCond .eq 7, 3) := by decide +kernel
theorem d_method_3_31 : decode method_3_code 31 = .ok (.getstatic 32, 3) := by decide +kernel
theorem d_method_3_34 : decode method_3_code 34 = .ok (.areturn, 1) := by decide +kernel
theorem d_method_3_27 : decode method_3_code 27 = .ok (.getstatic 29, 3) := by decide +kernel
theorem d_method_3_30 : decode method_3_code 30 = .ok (.areturn, 1) := by decide +kernel
theorem d_method_2_24 : decode method_2_code 24 = .ok (.getstatic 17, 3) := by decide +kernel
theorem d_method_2_27 : decode method_2_code 27 = .ok (.areturn, 1) := by decide +kernel
theorem ef_method_2_I (m : MethodId) (x0 : Int32) : entryFrame m #[(.int x0)] 2 = mkF m 0 #[.val (.int x0), .unset] [] := by first | (simp [entryFrame, mkF, argsToLocals, Value.category]; done) | rfl
theorem ef_prog_7_method_7_RI (m : MethodId) (x0 : Addr) (x1 : Int32) : entryFrame m #[(.ref x0), (.int x1)] 2 = mkF m 0 #[.val (.ref x0), .val (.int x1)] [] := by first | (simp [entryFrame, mkF, argsToLocals, Value.category]; done) | rfl
theorem ef_method_3_II (m : MethodId) (x0 : Int32) (x1 : Int32) : entryFrame m #[(.int x0), (.int x1)] 3 = mkF m 0 #[.val (.int x0), .val (.int x1), .unset] [] := by first | (simp [entryFrame, mkF, argsToLocals, Value.category]; done) | rfl
theorem ef_code_II (m : MethodId) (x0 : Int32) (x1 : Int32) : entryFrame m #[(.int x0), (.int x1)] maxLocals = mkF m 0 #[.val (.int x0), .val (.int x1), .unset, .unset, .unset] [] := by first | (simp [entryFrame, mkF, argsToLocals, Value.category, maxLocals]; done) | rfl
def Qrm1 (Z : State) (w_BID : Addr) (p1 : Int32) (h0 : Heap) (v : Option Value) (h : Heap) (L : List Loc) : Prop := v = some (.ref w_BID) ∧ Fr Z.heap.size L ∧ h = h0
set_option maxRecDepth 65536 in
set_option maxHeartbeats 40000000 in
theorem rm1 (l : Launch) (Z : State) (a0 : Array Value) (hw : ∀ d ∈ tables_1, d.before a0 Z = true) (ws : List Jvm.Cond) (w_BID : Addr) (p1 : Int32) (h0 : Heap) (Z0 : Ext Z.heap h0) (S_w_BID : Sta Z Z.heap "com/example/zia_tally/ziatally/evaluation/Method" "BID" "Lcom/example/zia_tally/ziatally/evaluation/Method;" (.ref w_BID)) (hc1 : ((p1 &&& (2147483647 : Int32)) % (3 : Int32)) = (0 : Int32)) :
    own_met l y_0 method_2_code 2 (some (.object "com/example/zia_tally/ziatally/evaluation/Method")) ws ({ frames := 0, cells := 0, slots := 0, locals := 0 } : Room) Z #[(.int p1)] h0 (Qrm1 Z w_BID p1 h0) := by
  refine own_start (plainFor_of_name pn_0) (fun m => ef_method_2_I m p1) ?_
  intro p e s m below meth c s₁ hx hby hml hown hnm X0 hZ e0 hret hlk
  have N0 := Fr.nil Z.heap.size
  obtain ⟨T2, X2, e2, st2⟩ := getS2 X0 hx hZ hown (host := "") (Or.inl (own_w hw 5 rfl)) Via.refl e0 (S_w_BID.ext Z0) (g := (mkF m 11 #[.val (.int p1), .val (.int (0 : Int32))] [])) rfl (hb hby d_method_2_11)
  obtain ⟨fs, hr, hrun, hended, hW, hsame⟩ := X2.leave (v := some (.ref w_BID)) (fun h => by rw [hret] at h; cases h) hlk
  refine ⟨_, _, ?_, hrun, hended, _, _, rfl, ?_, ⟨_, rfl⟩, hW, hsame.mono (by decide) (by decide)⟩
  · show own_S p e below s₁ (mkF m 0 #[.val (.int p1), .unset] []) _
    refine XS.iloadN X0.here hx rfl (hb hby d_method_2_0) rfl ?_
    show own_S p e below s₁ (mkF m 1 #[.val (.int p1), .unset] [(.int p1)]) _
    refine X0.ldcInt hx hown (mvT hZ (own_w hw 4 rfl)) (g := (mkF m 1 #[.val (.int p1), .unset] [(.int p1)])) rfl (hb hby d_method_2_1) _ ?_
    show own_S p e below s₁ (mkF m 3 #[.val (.int p1), .unset] [(.int (2147483647 : Int32)), (.int p1)]) _
    refine XS.iand X0.here hx rfl (hb hby d_method_2_3) rfl ?_
    show own_S p e below s₁ (mkF m 4 #[.val (.int p1), .unset] [(.int (p1 &&& (2147483647 : Int32)))]) _
    refine XS.iconst X0.here hx rfl (hb hby d_method_2_4) ?_
    show own_S p e below s₁ (mkF m 5 #[.val (.int p1), .unset] [(.int (3 : Int32)), (.int (p1 &&& (2147483647 : Int32)))]) _
    refine iremM X0 hx rfl (hb hby d_method_2_5) rfl (by decide) ?_
    show own_S p e below s₁ (mkF m 6 #[.val (.int p1), .unset] [(.int ((p1 &&& (2147483647 : Int32)) % (3 : Int32)))]) _
    rw [hc1]
    show own_S p e below s₁ (mkF m 6 #[.val (.int p1), .unset] [(.int (0 : Int32))]) _
    refine XS.istoreN X0.here hx rfl (hb hby d_method_2_6) rfl (l' := #[.val (.int p1), .val (.int (0 : Int32))]) rfl ?_
    show own_S p e below s₁ (mkF m 7 #[.val (.int p1), .val (.int (0 : Int32))] []) _
    refine XS.iloadN X0.here hx rfl (hb hby d_method_2_7) rfl ?_
    show own_S p e below s₁ (mkF m 8 #[.val (.int p1), .val (.int (0 : Int32))] [(.int (0 : Int32))]) _
    refine XS.ifNo X0.here hx rfl (hb hby d_method_2_8) rfl ((if0 _ _).trans (teq (rfl : (0 : Int32) = (0 : Int32))).2) ?_
    show own_S p e below s₁ (mkF m 11 #[.val (.int p1), .val (.int (0 : Int32))] []) _
    refine st2 _ ?_
    show own_S p e below T2 (mkF m 14 #[.val (.int p1), .val (.int (0 : Int32))] [(.ref w_BID)]) _
    jvm_step X2.here [X2.here.top, hx, (hb hby d_method_2_14), X2.method', hret, Value.isRef, FieldType.isReference]
    first | (intro acts; rw [hr _ acts rfl rfl rfl]) | rw [hr _ _ rfl rfl rfl]
    exact Steps.refl _
  · show Qrm1 Z w_BID p1 h0 _ T2.heap _
    rw [e2]
    exact ⟨rfl, N0, rfl⟩
def Qrm4 (Z : State) (w_BID : Addr) (w_LOW_BIDDER : Addr) (h0 : Heap) (v : Option Value) (h : Heap) (L : List Loc) : Prop := v = some (.ref w_LOW_BIDDER) ∧ Fr Z.heap.size L ∧ h = h0
set_option maxRecDepth 65536 in
set_option maxHeartbeats 40000000 in
theorem rm4 (l : Launch) (Z : State) (a0 : Array Value) (hw : ∀ d ∈ tables_1, d.before a0 Z = true) (ws : List Jvm.Cond) (w_BID : Addr) (w_LOW_BIDDER : Addr) (h0 : Heap) (Z0 : Ext Z.heap h0) (F_w_BID_single : Fld Z Z.heap w_BID "com/example/zia_tally/ziatally/evaluation/Method" "single" "Lcom/example/zia_tally/ziatally/evaluation/Outcome;" (.ref w_LOW_BIDDER)) :
    own_met l y_1 prog_7_method_7_code 2 (some (.object "com/example/zia_tally/ziatally/evaluation/Outcome")) ws ({ frames := 0, cells := 0, slots := 0, locals := 0 } : Room) Z #[(.ref w_BID), (.int (0 : Int32))] h0 (Qrm4 Z w_BID w_LOW_BIDDER h0) := by
  refine own_start (plainFor_of_name pn_1) (fun m => ef_prog_7_method_7_RI m w_BID (0 : Int32)) ?_
  intro p e s m below meth c s₁ hx hby hml hown hnm X0 hZ e0 hret hlk
  have N0 := Fr.nil Z.heap.size
  obtain ⟨T5, X5, e5, st5⟩ := getF X0 hx hZ hown (host := "") (Or.inl (own_w hw 25 rfl)) Via.refl e0 (F_w_BID_single.ext Z0) (g := (mkF m 12 #[.val (.ref w_BID), .val (.int (0 : Int32))] [(.ref w_BID)])) rfl rfl (hb hby d_prog_7_method_7_12)
  obtain ⟨fs, hr, hrun, hended, hW, hsame⟩ := X5.leave (v := some (.ref w_LOW_BIDDER)) (fun h => by rw [hret] at h; cases h) hlk
  refine ⟨_, _, ?_, hrun, hended, _, _, rfl, ?_, ⟨_, rfl⟩, hW, hsame.mono (by decide) (by decide)⟩
  · show own_S p e below s₁ (mkF m 0 #[.val (.ref w_BID), .val (.int (0 : Int32))] []) _
    refine XS.iloadN X0.here hx rfl (hb hby d_prog_7_method_7_0) rfl ?_
    show own_S p e below s₁ (mkF m 1 #[.val (.ref w_BID), .val (.int (0 : Int32))] [(.int (0 : Int32))]) _
    refine XS.ifYes X0.here hx rfl (pc0 := 1) (pc' := 11) rfl (hb hby d_prog_7_method_7_1) rfl ((if0 _ _).trans (teq (rfl : (0 : Int32) = (0 : Int32))).1) (by decide) (by decide) ?_
    show own_S p e below s₁ (mkF m 11 #[.val (.ref w_BID), .val (.int (0 : Int32))] []) _
    refine XS.aloadN X0.here hx rfl (hb hby d_prog_7_method_7_11) rfl rfl ?_
    show own_S p e below s₁ (mkF m 12 #[.val (.ref w_BID), .val (.int (0 : Int32))] [(.ref w_BID)]) _
    refine st5 _ ?_
    show own_S p e below T5 (mkF m 15 #[.val (.ref w_BID), .val (.int (0 : Int32))] [(.ref w_LOW_BIDDER)]) _
    jvm_step X5.here [X5.here.top, hx, (hb hby d_prog_7_method_7_15), X5.method', hret, Value.isRef, FieldType.isReference]
    first | (intro acts; rw [hr _ acts rfl rfl rfl]) | rw [hr _ _ rfl rfl rfl]
    exact Steps.refl _
  · show Qrm4 Z w_BID w_LOW_BIDDER h0 _ T5.heap _
    rw [e5]
    exact ⟨rfl, N0, rfl⟩
def Qrm7 (Z : State) (w_LOW_BIDDER : Addr) (p1 : Int32) (h0 : Heap) (v : Option Value) (h : Heap) (L : List Loc) : Prop := v = some (.ref w_LOW_BIDDER) ∧ Fr Z.heap.size L ∧ h = h0
set_option maxRecDepth 65536 in
set_option maxHeartbeats 40000000 in
theorem rm7 (l : Launch) (Z : State) (a0 : Array Value) (hw : ∀ d ∈ tables_1, d.before a0 Z = true) (ws : List Jvm.Cond) (w_LOW_BIDDER : Addr) (p1 : Int32) (h0 : Heap) (Z0 : Ext Z.heap h0) (S_w_LOW_BIDDER : Sta Z Z.heap "com/example/zia_tally/ziatally/evaluation/Outcome" "LOW_BIDDER" "Lcom/example/zia_tally/ziatally/evaluation/Outcome;" (.ref w_LOW_BIDDER)) (hc1 : ((p1 &&& (2147483647 : Int32)) % (3 : Int32)) = (0 : Int32)) :
    own_met l y_2 method_3_code 3 (some (.object "com/example/zia_tally/ziatally/evaluation/Outcome")) ws ({ frames := 0, cells := 0, slots := 0, locals := 0 } : Room) Z #[(.int p1), (.int (0 : Int32))] h0 (Qrm7 Z w_LOW_BIDDER p1 h0) := by
  refine own_start (plainFor_of_name pn_0) (fun m => ef_method_3_II m p1 (0 : Int32)) ?_
  intro p e s m below meth c s₁ hx hby hml hown hnm X0 hZ e0 hret hlk
  have N0 := Fr.nil Z.heap.size
  obtain ⟨T8, X8, e8, st8⟩ := getS2 X0 hx hZ hown (host := "") (Or.inl (own_w hw 32 rfl)) Via.refl e0 (S_w_LOW_BIDDER.ext Z0) (g := (mkF m 19 #[.val (.int p1), .val (.int (0 : Int32)), .val (.int (0 : Int32))] [])) rfl (hb hby d_method_3_19)
  obtain ⟨fs, hr, hrun, hended, hW, hsame⟩ := X8.leave (v := some (.ref w_LOW_BIDDER)) (fun h => by rw [hret] at h; cases h) hlk
  refine ⟨_, _, ?_, hrun, hended, _, _, rfl, ?_, ⟨_, rfl⟩, hW, hsame.mono (by decide) (by decide)⟩
  · show own_S p e below s₁ (mkF m 0 #[.val (.int p1), .val (.int (0 : Int32)), .unset] []) _
    refine XS.iloadN X0.here hx rfl (hb hby d_method_3_0) rfl ?_
    show own_S p e below s₁ (mkF m 1 #[.val (.int p1), .val (.int (0 : Int32)), .unset] [(.int p1)]) _
    refine X0.ldcInt hx hown (mvT hZ (own_w hw 4 rfl)) (g := (mkF m 1 #[.val (.int p1), .val (.int (0 : Int32)), .unset] [(.int p1)])) rfl (hb hby d_method_3_1) _ ?_
    show own_S p e below s₁ (mkF m 3 #[.val (.int p1), .val (.int (0 : Int32)), .unset] [(.int (2147483647 : Int32)), (.int p1)]) _
    refine XS.iand X0.here hx rfl (hb hby d_method_3_3) rfl ?_
    show own_S p e below s₁ (mkF m 4 #[.val (.int p1), .val (.int (0 : Int32)), .unset] [(.int (p1 &&& (2147483647 : Int32)))]) _
    refine XS.iconst X0.here hx rfl (hb hby d_method_3_4) ?_
    show own_S p e below s₁ (mkF m 5 #[.val (.int p1), .val (.int (0 : Int32)), .unset] [(.int (3 : Int32)), (.int (p1 &&& (2147483647 : Int32)))]) _
    refine iremM X0 hx rfl (hb hby d_method_3_5) rfl (by decide) ?_
    show own_S p e below s₁ (mkF m 6 #[.val (.int p1), .val (.int (0 : Int32)), .unset] [(.int ((p1 &&& (2147483647 : Int32)) % (3 : Int32)))]) _
    rw [hc1]
    show own_S p e below s₁ (mkF m 6 #[.val (.int p1), .val (.int (0 : Int32)), .unset] [(.int (0 : Int32))]) _
    refine XS.istoreN X0.here hx rfl (hb hby d_method_3_6) rfl (l' := #[.val (.int p1), .val (.int (0 : Int32)), .val (.int (0 : Int32))]) rfl ?_
    show own_S p e below s₁ (mkF m 7 #[.val (.int p1), .val (.int (0 : Int32)), .val (.int (0 : Int32))] []) _
    refine XS.iloadN X0.here hx rfl (hb hby d_method_3_7) rfl ?_
    show own_S p e below s₁ (mkF m 8 #[.val (.int p1), .val (.int (0 : Int32)), .val (.int (0 : Int32))] [(.int (0 : Int32))]) _
    refine XS.ifNo X0.here hx rfl (hb hby d_method_3_8) rfl ((if0 _ _).trans (teq (rfl : (0 : Int32) = (0 : Int32))).2) ?_
    show own_S p e below s₁ (mkF m 11 #[.val (.int p1), .val (.int (0 : Int32)), .val (.int (0 : Int32))] []) _
    refine XS.iloadN X0.here hx rfl (hb hby d_method_3_11) rfl ?_
    show own_S p e below s₁ (mkF m 12 #[.val (.int p1), .val (.int (0 : Int32)), .val (.int (0 : Int32))] [(.int (0 : Int32))]) _
    refine XS.ifYes X0.here hx rfl (pc0 := 12) (pc' := 19) rfl (hb hby d_method_3_12) rfl ((if0 _ _).trans (teq (rfl : (0 : Int32) = (0 : Int32))).1) (by decide) (by decide) ?_
    show own_S p e below s₁ (mkF m 19 #[.val (.int p1), .val (.int (0 : Int32)), .val (.int (0 : Int32))] []) _
    refine st8 _ ?_
    show own_S p e below T8 (mkF m 22 #[.val (.int p1), .val (.int (0 : Int32)), .val (.int (0 : Int32))] [(.ref w_LOW_BIDDER)]) _
    jvm_step X8.here [X8.here.top, hx, (hb hby d_method_3_22), X8.method', hret, Value.isRef, FieldType.isReference]
    first | (intro acts; rw [hr _ acts rfl rfl rfl]) | rw [hr _ _ rfl rfl rfl]
    exact Steps.refl _
  · show Qrm7 Z w_LOW_BIDDER p1 h0 _ T8.heap _
    rw [e8]
    exact ⟨rfl, N0, rfl⟩
def Qrm0_0_0 (Z : State) (w_BID : Addr) (w_LOW_BIDDER : Addr) (p1 : Int32) (p2 : Int32) (h0 : Heap) (v : Option Value) (h : Heap) (L : List Loc) : Prop := v = some (.int 1) ∧ Fr Z.heap.size L
set_option maxRecDepth 65536 in
set_option maxHeartbeats 40000000 in
theorem rm0_0_0 (l : Launch) (Z : State) (a0 : Array Value) (hw : ∀ d ∈ tables_1, d.before a0 Z = true) (ws : List Jvm.Cond) (w_BID : Addr) (w_LOW_BIDDER : Addr) (p1 : Int32) (p2 : Int32) (h0 : Heap) (Z0 : Ext Z.heap h0) (S_w_BID : Sta Z Z.heap "com/example/zia_tally/ziatally/evaluation/Method" "BID" "Lcom/example/zia_tally/ziatally/evaluation/Method;" (.ref w_BID)) (E_w_BID : Exa Z Z.heap w_BID "com/example/zia_tally/ziatally/evaluation/Method") (F_w_BID_single : Fld Z Z.heap w_BID "com/example/zia_tally/ziatally/evaluation/Method" "single" "Lcom/example/zia_tally/ziatally/evaluation/Outcome;" (.ref w_LOW_BIDDER)) (S_w_LOW_BIDDER : Sta Z Z.heap "com/example/zia_tally/ziatally/evaluation/Outcome" "LOW_BIDDER" "Lcom/example/zia_tally/ziatally/evaluation/Outcome;" (.ref w_LOW_BIDDER)) (hc1 : ((p1 &&& (2147483647 : Int32)) % (3 : Int32)) = (0 : Int32)) (hc2 : (p2 &&& (1 : Int32)) = (0 : Int32)) :
    own_met l x code maxLocals ret ws room_1 Z #[(.int p1), (.int p2)] h0 (Qrm0_0_0 Z w_BID w_LOW_BIDDER p1 p2 h0) := by
  refine own_start (plainFor_of_name pn_0) (fun m => ef_code_II m p1 p2) ?_
  intro p e s m below meth c s₁ hx hby hml hown hnm X0 hZ e0 hret hlk
  have N0 := Fr.nil Z.heap.size
  obtain ⟨_, T3, Lc3, X3, hQ3, st3⟩ := own_static (y := y_0) X0 hx hZ hown (own_w hw 0 rfl) (own_w hw 1 rfl) (own_w hw 2 rfl) (own_w hw 3 rfl) (by decide) (rm1 l Z a0 hw [] w_BID p1 h0 Z0 S_w_BID hc1) (by decide) (by decide) e0 (g := (mkF m 1 #[.val (.int p1), .val (.int p2), .unset, .unset, .unset] [(.int p1)])) rfl (by rw [hml]; rfl) (argsL := [(.int p1)]) (rest := []) (lenOf pd_0 rfl) rfl rfl (W := 0) (by show 2 * 0 + _ ≤ _; exact Nat.le_of_eq rfl) (hb hby at_1) (by decide) (by decide)
  obtain ⟨rfl, N3q, e3⟩ := hQ3
  have N3 := Fr.app N0 N3q
  obtain ⟨_, T6, Lc6, X6, hQ6, st6⟩ := own_virtual (y := y_1) X3 hx hZ hown (own_w hw 8 rfl) (own_w hw 9 rfl) (own_w hw 11 rfl) (own_w hw 10 rfl) (own_w hw 6 rfl) (own_w hw 12 rfl) (by decide) (rm4 l Z a0 hw [] w_BID w_LOW_BIDDER h0 Z0 F_w_BID_single) (by decide) (by decide) e3 (E_w_BID.ext Z0) (g := (mkF m 19 #[.val (.int p1), .val (.int p2), .val (.ref w_BID), .val (.int (0 : Int32)), .unset] [(.int (0 : Int32)), (.ref w_BID)])) rfl (by rw [hml]; rfl) (argsL := [(.int (0 : Int32))]) (rest := []) (lenOf pd_1 rfl) rfl rfl (W := 0) (by show 2 * 0 + _ ≤ _; exact Nat.le_of_eq rfl) (hb hby at_19) (by decide) (by decide)
  obtain ⟨rfl, N6q, e6⟩ := hQ6
  have N6 := Fr.app N3 N6q
  obtain ⟨_, T9, Lc9, X9, hQ9, st9⟩ := own_static (y := y_2) X6 hx hZ hown (own_w hw 17 rfl) (own_w hw 18 rfl) (own_w hw 2 rfl) (own_w hw 19 rfl) (by decide) (rm7 l Z a0 hw [] w_LOW_BIDDER p1 h0 Z0 S_w_LOW_BIDDER hc1) (by decide) (by decide) e6 (g := (mkF m 28 #[.val (.int p1), .val (.int p2), .val (.ref w_BID), .val (.int (0 : Int32)), .val (.ref w_LOW_BIDDER)] [(.int (0 : Int32)), (.int p1), (.ref w_LOW_BIDDER)])) rfl (by rw [hml]; rfl) (argsL := [(.int p1), (.int (0 : Int32))]) (rest := [(.ref w_LOW_BIDDER)]) (lenOf pd_2 rfl) rfl rfl (W := 1) (by show 2 * 0 + _ ≤ _; exact Nat.le_of_eq rfl) (hb hby at_28) (by decide) (by decide)
  obtain ⟨rfl, N9q, e9⟩ := hQ9
  have N9 := Fr.app N6 N9q
  obtain ⟨fs, hr, hrun, hended, hW, hsame⟩ := X9.leave (v := some (.int (1 : Int32))) (fun h => by rw [hret] at h; cases h) hlk
  refine ⟨_, _, ?_, hrun, hended, _, _, rfl, ?_, ⟨_, rfl⟩, hW, hsame.mono (by decide) (by decide)⟩
  · show own_S p e below s₁ (mkF m 0 #[.val (.int p1), .val (.int p2), .unset, .unset, .unset] []) _
    refine XS.iloadN X0.here hx rfl (hb hby at_0) rfl ?_
    show own_S p e below s₁ (mkF m 1 #[.val (.int p1), .val (.int p2), .unset, .unset, .unset] [(.int p1)]) _
    refine st3 _ ?_
    show own_S p e below T3 (mkF m 4 #[.val (.int p1), .val (.int p2), .unset, .unset, .unset] [(.ref w_BID)]) _
    refine XS.astoreN X3.here hx rfl (hb hby at_4) rfl rfl (l' := #[.val (.int p1), .val (.int p2), .val (.ref w_BID), .unset, .unset]) rfl ?_
    show own_S p e below T3 (mkF m 5 #[.val (.int p1), .val (.int p2), .val (.ref w_BID), .unset, .unset] []) _
    refine XS.iloadN X3.here hx rfl (hb hby at_5) rfl ?_
    show own_S p e below T3 (mkF m 6 #[.val (.int p1), .val (.int p2), .val (.ref w_BID), .unset, .unset] [(.int p2)]) _
    refine XS.iconst X3.here hx rfl (hb hby at_6) ?_
    show own_S p e below T3 (mkF m 7 #[.val (.int p1), .val (.int p2), .val (.ref w_BID), .unset, .unset] [(.int (1 : Int32)), (.int p2)]) _
    refine XS.iand X3.here hx rfl (hb hby at_7) rfl ?_
    show own_S p e below T3 (mkF m 8 #[.val (.int p1), .val (.int p2), .val (.ref w_BID), .unset, .unset] [(.int (p2 &&& (1 : Int32)))]) _
    rw [hc2]
    show own_S p e below T3 (mkF m 8 #[.val (.int p1), .val (.int p2), .val (.ref w_BID), .unset, .unset] [(.int (0 : Int32))]) _
    refine XS.ifYes X3.here hx rfl (pc0 := 8) (pc' := 15) rfl (hb hby at_8) rfl ((if0 _ _).trans (teq (rfl : (0 : Int32) = (0 : Int32))).1) (by decide) (by decide) ?_
    show own_S p e below T3 (mkF m 15 #[.val (.int p1), .val (.int p2), .val (.ref w_BID), .unset, .unset] []) _
    refine XS.iconst X3.here hx rfl (hb hby at_15) ?_
    show own_S p e below T3 (mkF m 16 #[.val (.int p1), .val (.int p2), .val (.ref w_BID), .unset, .unset] [(.int (0 : Int32))]) _
    refine XS.istoreN X3.here hx rfl (hb hby at_16) rfl (l' := #[.val (.int p1), .val (.int p2), .val (.ref w_BID), .val (.int (0 : Int32)), .unset]) rfl ?_
    show own_S p e below T3 (mkF m 17 #[.val (.int p1), .val (.int p2), .val (.ref w_BID), .val (.int (0 : Int32)), .unset] []) _
    refine XS.aloadN X3.here hx rfl (hb hby at_17) rfl rfl ?_
    show own_S p e below T3 (mkF m 18 #[.val (.int p1), .val (.int p2), .val (.ref w_BID), .val (.int (0 : Int32)), .unset] [(.ref w_BID)]) _
    refine XS.iloadN X3.here hx rfl (hb hby at_18) rfl ?_
    show own_S p e below T3 (mkF m 19 #[.val (.int p1), .val (.int p2), .val (.ref w_BID), .val (.int (0 : Int32)), .unset] [(.int (0 : Int32)), (.ref w_BID)]) _
    refine st6 _ ?_
    show own_S p e below T6 (mkF m 22 #[.val (.int p1), .val (.int p2), .val (.ref w_BID), .val (.int (0 : Int32)), .unset] [(.ref w_LOW_BIDDER)]) _
    refine XS.astore X6.here hx rfl (hb hby at_22) rfl rfl (l' := #[.val (.int p1), .val (.int p2), .val (.ref w_BID), .val (.int (0 : Int32)), .val (.ref w_LOW_BIDDER)]) rfl ?_
    show own_S p e below T6 (mkF m 24 #[.val (.int p1), .val (.int p2), .val (.ref w_BID), .val (.int (0 : Int32)), .val (.ref w_LOW_BIDDER)] []) _
    refine XS.aload X6.here hx rfl (hb hby at_24) rfl rfl ?_
    show own_S p e below T6 (mkF m 26 #[.val (.int p1), .val (.int p2), .val (.ref w_BID), .val (.int (0 : Int32)), .val (.ref w_LOW_BIDDER)] [(.ref w_LOW_BIDDER)]) _
    refine XS.iloadN X6.here hx rfl (hb hby at_26) rfl ?_
    show own_S p e below T6 (mkF m 27 #[.val (.int p1), .val (.int p2), .val (.ref w_BID), .val (.int (0 : Int32)), .val (.ref w_LOW_BIDDER)] [(.int p1), (.ref w_LOW_BIDDER)]) _
    refine XS.iloadN X6.here hx rfl (hb hby at_27) rfl ?_
    show own_S p e below T6 (mkF m 28 #[.val (.int p1), .val (.int p2), .val (.ref w_BID), .val (.int (0 : Int32)), .val (.ref w_LOW_BIDDER)] [(.int (0 : Int32)), (.int p1), (.ref w_LOW_BIDDER)]) _
    refine st9 _ ?_
    show own_S p e below T9 (mkF m 31 #[.val (.int p1), .val (.int p2), .val (.ref w_BID), .val (.int (0 : Int32)), .val (.ref w_LOW_BIDDER)] [(.ref w_LOW_BIDDER), (.ref w_LOW_BIDDER)]) _
    refine Jvm.RoadKit.acmp (g := (mkF m 31 #[.val (.int p1), .val (.int p2), .val (.ref w_BID), .val (.int (0 : Int32)), .val (.ref w_LOW_BIDDER)] [(.ref w_LOW_BIDDER), (.ref w_LOW_BIDDER)])) X9 hx rfl rfl rfl (pc0 := 31) (pc' := 34) (same := true) rfl (hb hby at_31) rfl (decide_eq_true rfl) (by decide) (by decide) ?_
    show own_S p e below T9 (mkF m 34 #[.val (.int p1), .val (.int p2), .val (.ref w_BID), .val (.int (0 : Int32)), .val (.ref w_LOW_BIDDER)] []) _
    refine XS.iconst X9.here hx rfl (hb hby at_34) ?_
    show own_S p e below T9 (mkF m 35 #[.val (.int p1), .val (.int p2), .val (.ref w_BID), .val (.int (0 : Int32)), .val (.ref w_LOW_BIDDER)] [(.int (1 : Int32))]) _
    refine XS.goto X9.here hx rfl (pc0 := 35) (pc' := 39) rfl (hb hby at_35) (by decide) (by decide) ?_
    show own_S p e below T9 (mkF m 39 #[.val (.int p1), .val (.int p2), .val (.ref w_BID), .val (.int (0 : Int32)), .val (.ref w_LOW_BIDDER)] [(.int (1 : Int32))]) _
    exact retN X9 hx (t := .boolean) hret (by simp) (hb hby at_39) hr
  · show Qrm0_0_0 Z w_BID w_LOW_BIDDER p1 p2 h0 _ T9.heap _
    exact ⟨rfl, N9⟩
def Qrm11 (Z : State) (w_BID : Addr) (w_IDENTICAL_LOW_BIDS : Addr) (h0 : Heap) (v : Option Value) (h : Heap) (L : List Loc) : Prop := v = some (.ref w_IDENTICAL_LOW_BIDS) ∧ Fr Z.heap.size L ∧ h = h0
set_option maxRecDepth 65536 in
set_option maxHeartbeats 40000000 in
theorem rm11 (l : Launch) (Z : State) (a0 : Array Value) (hw : ∀ d ∈ tables_1, d.before a0 Z = true) (ws : List Jvm.Cond) (w_BID : Addr) (w_IDENTICAL_LOW_BIDS : Addr) (h0 : Heap) (Z0 : Ext Z.heap h0) (F_w_BID_tied : Fld Z Z.heap w_BID "com/example/zia_tally/ziatally/evaluation/Method" "tied" "Lcom/example/zia_tally/ziatally/evaluation/Outcome;" (.ref w_IDENTICAL_LOW_BIDS)) :
    own_met l y_1 prog_7_method_7_code 2 (some (.object "com/example/zia_tally/ziatally/evaluation/Outcome")) ws ({ frames := 0, cells := 0, slots := 0, locals := 0 } : Room) Z #[(.ref w_BID), (.int (1 : Int32))] h0 (Qrm11 Z w_BID w_IDENTICAL_LOW_BIDS h0) := by
  refine own_start (plainFor_of_name pn_1) (fun m => ef_prog_7_method_7_RI m w_BID (1 : Int32)) ?_
  intro p e s m below meth c s₁ hx hby hml hown hnm X0 hZ e0 hret hlk
  have N0 := Fr.nil Z.heap.size
  obtain ⟨T12, X12, e12, st12⟩ := getF X0 hx hZ hown (host := "") (Or.inl (own_w hw 13 rfl)) Via.refl e0 (F_w_BID_tied.ext Z0) (g := (mkF m 5 #[.val (.ref w_BID), .val (.int (1 : Int32))] [(.ref w_BID)])) rfl rfl (hb hby d_prog_7_method_7_5)
  obtain ⟨fs, hr, hrun, hended, hW, hsame⟩ := X12.leave (v := some (.ref w_IDENTICAL_LOW_BIDS)) (fun h => by rw [hret] at h; cases h) hlk
  refine ⟨_, _, ?_, hrun, hended, _, _, rfl, ?_, ⟨_, rfl⟩, hW, hsame.mono (by decide) (by decide)⟩
  · show own_S p e below s₁ (mkF m 0 #[.val (.ref w_BID), .val (.int (1 : Int32))] []) _
    refine XS.iloadN X0.here hx rfl (hb hby d_prog_7_method_7_0) rfl ?_
    show own_S p e below s₁ (mkF m 1 #[.val (.ref w_BID), .val (.int (1 : Int32))] [(.int (1 : Int32))]) _
    refine XS.ifNo X0.here hx rfl (hb hby d_prog_7_method_7_1) rfl ((if0 _ _).trans (feq (by decide : ¬ ((1 : Int32) = (0 : Int32)))).1) ?_
    show own_S p e below s₁ (mkF m 4 #[.val (.ref w_BID), .val (.int (1 : Int32))] []) _
    refine XS.aloadN X0.here hx rfl (hb hby d_prog_7_method_7_4) rfl rfl ?_
    show own_S p e below s₁ (mkF m 5 #[.val (.ref w_BID), .val (.int (1 : Int32))] [(.ref w_BID)]) _
    refine st12 _ ?_
    show own_S p e below T12 (mkF m 8 #[.val (.ref w_BID), .val (.int (1 : Int32))] [(.ref w_IDENTICAL_LOW_BIDS)]) _
    refine XS.goto X12.here hx rfl (pc0 := 8) (pc' := 15) rfl (hb hby d_prog_7_method_7_8) (by decide) (by decide) ?_
    show own_S p e below T12 (mkF m 15 #[.val (.ref w_BID), .val (.int (1 : Int32))] [(.ref w_IDENTICAL_LOW_BIDS)]) _
    jvm_step X12.here [X12.here.top, hx, (hb hby d_prog_7_method_7_15), X12.method', hret, Value.isRef, FieldType.isReference]
    first | (intro acts; rw [hr _ acts rfl rfl rfl]) | rw [hr _ _ rfl rfl rfl]
    exact Steps.refl _
  · show Qrm11 Z w_BID w_IDENTICAL_LOW_BIDS h0 _ T12.heap _
    rw [e12]
    exact ⟨rfl, N0, rfl⟩
def Qrm14 (Z : State) (w_IDENTICAL_LOW_BIDS : Addr) (p1 : Int32) (h0 : Heap) (v : Option Value) (h : Heap) (L : List Loc) : Prop := v = some (.ref w_IDENTICAL_LOW_BIDS) ∧ Fr Z.heap.size L ∧ h = h0
set_option maxRecDepth 65536 in
set_option maxHeartbeats 40000000 in
theorem rm14 (l : Launch) (Z : State) (a0 : Array Value) (hw : ∀ d ∈ tables_1, d.before a0 Z = true) (ws : List Jvm.Cond) (w_IDENTICAL_LOW_BIDS : Addr) (p1 : Int32) (h0 : Heap) (Z0 : Ext Z.heap h0) (S_w_IDENTICAL_LOW_BIDS : Sta Z Z.heap "com/example/zia_tally/ziatally/evaluation/Outcome" "IDENTICAL_LOW_BIDS" "Lcom/example/zia_tally/ziatally/evaluation/Outcome;" (.ref w_IDENTICAL_LOW_BIDS)) (hc1 : ((p1 &&& (2147483647 : Int32)) % (3 : Int32)) = (0 : Int32)) :
    own_met l y_2 method_3_code 3 (some (.object "com/example/zia_tally/ziatally/evaluation/Outcome")) ws ({ frames := 0, cells := 0, slots := 0, locals := 0 } : Room) Z #[(.int p1), (.int (1 : Int32))] h0 (Qrm14 Z w_IDENTICAL_LOW_BIDS p1 h0) := by
  refine own_start (plainFor_of_name pn_0) (fun m => ef_method_3_II m p1 (1 : Int32)) ?_
  intro p e s m below meth c s₁ hx hby hml hown hnm X0 hZ e0 hret hlk
  have N0 := Fr.nil Z.heap.size
  obtain ⟨T15, X15, e15, st15⟩ := getS2 X0 hx hZ hown (host := "") (Or.inl (own_w hw 20 rfl)) Via.refl e0 (S_w_IDENTICAL_LOW_BIDS.ext Z0) (g := (mkF m 15 #[.val (.int p1), .val (.int (1 : Int32)), .val (.int (0 : Int32))] [])) rfl (hb hby d_method_3_15)
  obtain ⟨fs, hr, hrun, hended, hW, hsame⟩ := X15.leave (v := some (.ref w_IDENTICAL_LOW_BIDS)) (fun h => by rw [hret] at h; cases h) hlk
  refine ⟨_, _, ?_, hrun, hended, _, _, rfl, ?_, ⟨_, rfl⟩, hW, hsame.mono (by decide) (by decide)⟩
  · show own_S p e below s₁ (mkF m 0 #[.val (.int p1), .val (.int (1 : Int32)), .unset] []) _
    refine XS.iloadN X0.here hx rfl (hb hby d_method_3_0) rfl ?_
    show own_S p e below s₁ (mkF m 1 #[.val (.int p1), .val (.int (1 : Int32)), .unset] [(.int p1)]) _
    refine X0.ldcInt hx hown (mvT hZ (own_w hw 4 rfl)) (g := (mkF m 1 #[.val (.int p1), .val (.int (1 : Int32)), .unset] [(.int p1)])) rfl (hb hby d_method_3_1) _ ?_
    show own_S p e below s₁ (mkF m 3 #[.val (.int p1), .val (.int (1 : Int32)), .unset] [(.int (2147483647 : Int32)), (.int p1)]) _
    refine XS.iand X0.here hx rfl (hb hby d_method_3_3) rfl ?_
    show own_S p e below s₁ (mkF m 4 #[.val (.int p1), .val (.int (1 : Int32)), .unset] [(.int (p1 &&& (2147483647 : Int32)))]) _
    refine XS.iconst X0.here hx rfl (hb hby d_method_3_4) ?_
    show own_S p e below s₁ (mkF m 5 #[.val (.int p1), .val (.int (1 : Int32)), .unset] [(.int (3 : Int32)), (.int (p1 &&& (2147483647 : Int32)))]) _
    refine iremM X0 hx rfl (hb hby d_method_3_5) rfl (by decide) ?_
    show own_S p e below s₁ (mkF m 6 #[.val (.int p1), .val (.int (1 : Int32)), .unset] [(.int ((p1 &&& (2147483647 : Int32)) % (3 : Int32)))]) _
    rw [hc1]
    show own_S p e below s₁ (mkF m 6 #[.val (.int p1), .val (.int (1 : Int32)), .unset] [(.int (0 : Int32))]) _
    refine XS.istoreN X0.here hx rfl (hb hby d_method_3_6) rfl (l' := #[.val (.int p1), .val (.int (1 : Int32)), .val (.int (0 : Int32))]) rfl ?_
    show own_S p e below s₁ (mkF m 7 #[.val (.int p1), .val (.int (1 : Int32)), .val (.int (0 : Int32))] []) _
    refine XS.iloadN X0.here hx rfl (hb hby d_method_3_7) rfl ?_
    show own_S p e below s₁ (mkF m 8 #[.val (.int p1), .val (.int (1 : Int32)), .val (.int (0 : Int32))] [(.int (0 : Int32))]) _
    refine XS.ifNo X0.here hx rfl (hb hby d_method_3_8) rfl ((if0 _ _).trans (teq (rfl : (0 : Int32) = (0 : Int32))).2) ?_
    show own_S p e below s₁ (mkF m 11 #[.val (.int p1), .val (.int (1 : Int32)), .val (.int (0 : Int32))] []) _
    refine XS.iloadN X0.here hx rfl (hb hby d_method_3_11) rfl ?_
    show own_S p e below s₁ (mkF m 12 #[.val (.int p1), .val (.int (1 : Int32)), .val (.int (0 : Int32))] [(.int (1 : Int32))]) _
    refine XS.ifNo X0.here hx rfl (hb hby d_method_3_12) rfl ((if0 _ _).trans (feq (by decide : ¬ ((1 : Int32) = (0 : Int32)))).1) ?_
    show own_S p e below s₁ (mkF m 15 #[.val (.int p1), .val (.int (1 : Int32)), .val (.int (0 : Int32))] []) _
    refine st15 _ ?_
    show own_S p e below T15 (mkF m 18 #[.val (.int p1), .val (.int (1 : Int32)), .val (.int (0 : Int32))] [(.ref w_IDENTICAL_LOW_BIDS)]) _
    jvm_step X15.here [X15.here.top, hx, (hb hby d_method_3_18), X15.method', hret, Value.isRef, FieldType.isReference]
    first | (intro acts; rw [hr _ acts rfl rfl rfl]) | rw [hr _ _ rfl rfl rfl]
    exact Steps.refl _
  · show Qrm14 Z w_IDENTICAL_LOW_BIDS p1 h0 _ T15.heap _
    rw [e15]
    exact ⟨rfl, N0, rfl⟩
def Qrm0_0_1 (Z : State) (w_BID : Addr) (w_IDENTICAL_LOW_BIDS : Addr) (p1 : Int32) (p2 : Int32) (h0 : Heap) (v : Option Value) (h : Heap) (L : List Loc) : Prop := v = some (.int 1) ∧ Fr Z.heap.size L
set_option maxRecDepth 65536 in
set_option maxHeartbeats 40000000 in
theorem rm0_0_1 (l : Launch) (Z : State) (a0 : Array Value) (hw : ∀ d ∈ tables_1, d.before a0 Z = true) (ws : List Jvm.Cond) (w_BID : Addr) (w_IDENTICAL_LOW_BIDS : Addr) (p1 : Int32) (p2 : Int32) (h0 : Heap) (Z0 : Ext Z.heap h0) (S_w_BID : Sta Z Z.heap "com/example/zia_tally/ziatally/evaluation/Method" "BID" "Lcom/example/zia_tally/ziatally/evaluation/Method;" (.ref w_BID)) (E_w_BID : Exa Z Z.heap w_BID "com/example/zia_tally/ziatally/evaluation/Method") (F_w_BID_tied : Fld Z Z.heap w_BID "com/example/zia_tally/ziatally/evaluation/Method" "tied" "Lcom/example/zia_tally/ziatally/evaluation/Outcome;" (.ref w_IDENTICAL_LOW_BIDS)) (S_w_IDENTICAL_LOW_BIDS : Sta Z Z.heap "com/example/zia_tally/ziatally/evaluation/Outcome" "IDENTICAL_LOW_BIDS" "Lcom/example/zia_tally/ziatally/evaluation/Outcome;" (.ref w_IDENTICAL_LOW_BIDS)) (hc1 : ((p1 &&& (2147483647 : Int32)) % (3 : Int32)) = (0 : Int32)) (hc3 : (p2 &&& (1 : Int32)) = (1 : Int32)) :
    own_met l x code maxLocals ret ws room_1 Z #[(.int p1), (.int p2)] h0 (Qrm0_0_1 Z w_BID w_IDENTICAL_LOW_BIDS p1 p2 h0) := by
  refine own_start (plainFor_of_name pn_0) (fun m => ef_code_II m p1 p2) ?_
  intro p e s m below meth c s₁ hx hby hml hown hnm X0 hZ e0 hret hlk
  have N0 := Fr.nil Z.heap.size
  obtain ⟨_, T10, Lc10, X10, hQ10, st10⟩ := own_static (y := y_0) X0 hx hZ hown (own_w hw 0 rfl) (own_w hw 1 rfl) (own_w hw 2 rfl) (own_w hw 3 rfl) (by decide) (rm1 l Z a0 hw [] w_BID p1 h0 Z0 S_w_BID hc1) (by decide) (by decide) e0 (g := (mkF m 1 #[.val (.int p1), .val (.int p2), .unset, .unset, .unset] [(.int p1)])) rfl (by rw [hml]; rfl) (argsL := [(.int p1)]) (rest := []) (lenOf pd_0 rfl) rfl rfl (W := 0) (by show 2 * 0 + _ ≤ _; exact Nat.le_of_eq rfl) (hb hby at_1) (by decide) (by decide)
  obtain ⟨rfl, N10q, e10⟩ := hQ10
  have N10 := Fr.app N0 N10q
  obtain ⟨_, T13, Lc13, X13, hQ13, st13⟩ := own_virtual (y := y_1) X10 hx hZ hown (own_w hw 8 rfl) (own_w hw 9 rfl) (own_w hw 11 rfl) (own_w hw 10 rfl) (own_w hw 6 rfl) (own_w hw 12 rfl) (by decide) (rm11 l Z a0 hw [] w_BID w_IDENTICAL_LOW_BIDS h0 Z0 F_w_BID_tied) (by decide) (by decide) e10 (E_w_BID.ext Z0) (g := (mkF m 19 #[.val (.int p1), .val (.int p2), .val (.ref w_BID), .val (.int (1 : Int32)), .unset] [(.int (1 : Int32)), (.ref w_BID)])) rfl (by rw [hml]; rfl) (argsL := [(.int (1 : Int32))]) (rest := []) (lenOf pd_1 rfl) rfl rfl (W := 0) (by show 2 * 0 + _ ≤ _; exact Nat.le_of_eq rfl) (hb hby at_19) (by decide) (by decide)
  obtain ⟨rfl, N13q, e13⟩ := hQ13
  have N13 := Fr.app N10 N13q
  obtain ⟨_, T16, Lc16, X16, hQ16, st16⟩ := own_static (y := y_2) X13 hx hZ hown (own_w hw 17 rfl) (own_w hw 18 rfl) (own_w hw 2 rfl) (own_w hw 19 rfl) (by decide) (rm14 l Z a0 hw [] w_IDENTICAL_LOW_BIDS p1 h0 Z0 S_w_IDENTICAL_LOW_BIDS hc1) (by decide) (by decide) e13 (g := (mkF m 28 #[.val (.int p1), .val (.int p2), .val (.ref w_BID), .val (.int (1 : Int32)), .val (.ref w_IDENTICAL_LOW_BIDS)] [(.int (1 : Int32)), (.int p1), (.ref w_IDENTICAL_LOW_BIDS)])) rfl (by rw [hml]; rfl) (argsL := [(.int p1), (.int (1 : Int32))]) (rest := [(.ref w_IDENTICAL_LOW_BIDS)]) (lenOf pd_2 rfl) rfl rfl (W := 1) (by show 2 * 0 + _ ≤ _; exact Nat.le_of_eq rfl) (hb hby at_28) (by decide) (by decide)
  obtain ⟨rfl, N16q, e16⟩ := hQ16
  have N16 := Fr.app N13 N16q
  obtain ⟨fs, hr, hrun, hended, hW, hsame⟩ := X16.leave (v := some (.int (1 : Int32))) (fun h => by rw [hret] at h; cases h) hlk
  refine ⟨_, _, ?_, hrun, hended, _, _, rfl, ?_, ⟨_, rfl⟩, hW, hsame.mono (by decide) (by decide)⟩
  · show own_S p e below s₁ (mkF m 0 #[.val (.int p1), .val (.int p2), .unset, .unset, .unset] []) _
    refine XS.iloadN X0.here hx rfl (hb hby at_0) rfl ?_
    show own_S p e below s₁ (mkF m 1 #[.val (.int p1), .val (.int p2), .unset, .unset, .unset] [(.int p1)]) _
    refine st10 _ ?_
    show own_S p e below T10 (mkF m 4 #[.val (.int p1), .val (.int p2), .unset, .unset, .unset] [(.ref w_BID)]) _
    refine XS.astoreN X10.here hx rfl (hb hby at_4) rfl rfl (l' := #[.val (.int p1), .val (.int p2), .val (.ref w_BID), .unset, .unset]) rfl ?_
    show own_S p e below T10 (mkF m 5 #[.val (.int p1), .val (.int p2), .val (.ref w_BID), .unset, .unset] []) _
    refine XS.iloadN X10.here hx rfl (hb hby at_5) rfl ?_
    show own_S p e below T10 (mkF m 6 #[.val (.int p1), .val (.int p2), .val (.ref w_BID), .unset, .unset] [(.int p2)]) _
    refine XS.iconst X10.here hx rfl (hb hby at_6) ?_
    show own_S p e below T10 (mkF m 7 #[.val (.int p1), .val (.int p2), .val (.ref w_BID), .unset, .unset] [(.int (1 : Int32)), (.int p2)]) _
    refine XS.iand X10.here hx rfl (hb hby at_7) rfl ?_
    show own_S p e below T10 (mkF m 8 #[.val (.int p1), .val (.int p2), .val (.ref w_BID), .unset, .unset] [(.int (p2 &&& (1 : Int32)))]) _
    rw [hc3]
    show own_S p e below T10 (mkF m 8 #[.val (.int p1), .val (.int p2), .val (.ref w_BID), .unset, .unset] [(.int (1 : Int32))]) _
    refine XS.ifNo X10.here hx rfl (hb hby at_8) rfl ((if0 _ _).trans (feq (by decide : ¬ ((1 : Int32) = (0 : Int32)))).1) ?_
    show own_S p e below T10 (mkF m 11 #[.val (.int p1), .val (.int p2), .val (.ref w_BID), .unset, .unset] []) _
    refine XS.iconst X10.here hx rfl (hb hby at_11) ?_
    show own_S p e below T10 (mkF m 12 #[.val (.int p1), .val (.int p2), .val (.ref w_BID), .unset, .unset] [(.int (1 : Int32))]) _
    refine XS.goto X10.here hx rfl (pc0 := 12) (pc' := 16) rfl (hb hby at_12) (by decide) (by decide) ?_
    show own_S p e below T10 (mkF m 16 #[.val (.int p1), .val (.int p2), .val (.ref w_BID), .unset, .unset] [(.int (1 : Int32))]) _
    refine XS.istoreN X10.here hx rfl (hb hby at_16) rfl (l' := #[.val (.int p1), .val (.int p2), .val (.ref w_BID), .val (.int (1 : Int32)), .unset]) rfl ?_
    show own_S p e below T10 (mkF m 17 #[.val (.int p1), .val (.int p2), .val (.ref w_BID), .val (.int (1 : Int32)), .unset] []) _
    refine XS.aloadN X10.here hx rfl (hb hby at_17) rfl rfl ?_
    show own_S p e below T10 (mkF m 18 #[.val (.int p1), .val (.int p2), .val (.ref w_BID), .val (.int (1 : Int32)), .unset] [(.ref w_BID)]) _
    refine XS.iloadN X10.here hx rfl (hb hby at_18) rfl ?_
    show own_S p e below T10 (mkF m 19 #[.val (.int p1), .val (.int p2), .val (.ref w_BID), .val (.int (1 : Int32)), .unset] [(.int (1 : Int32)), (.ref w_BID)]) _
    refine st13 _ ?_
    show own_S p e below T13 (mkF m 22 #[.val (.int p1), .val (.int p2), .val (.ref w_BID), .val (.int (1 : Int32)), .unset] [(.ref w_IDENTICAL_LOW_BIDS)]) _
    refine XS.astore X13.here hx rfl (hb hby at_22) rfl rfl (l' := #[.val (.int p1), .val (.int p2), .val (.ref w_BID), .val (.int (1 : Int32)), .val (.ref w_IDENTICAL_LOW_BIDS)]) rfl ?_
    show own_S p e below T13 (mkF m 24 #[.val (.int p1), .val (.int p2), .val (.ref w_BID), .val (.int (1 : Int32)), .val (.ref w_IDENTICAL_LOW_BIDS)] []) _
    refine XS.aload X13.here hx rfl (hb hby at_24) rfl rfl ?_
    show own_S p e below T13 (mkF m 26 #[.val (.int p1), .val (.int p2), .val (.ref w_BID), .val (.int (1 : Int32)), .val (.ref w_IDENTICAL_LOW_BIDS)] [(.ref w_IDENTICAL_LOW_BIDS)]) _
    refine XS.iloadN X13.here hx rfl (hb hby at_26) rfl ?_
    show own_S p e below T13 (mkF m 27 #[.val (.int p1), .val (.int p2), .val (.ref w_BID), .val (.int (1 : Int32)), .val (.ref w_IDENTICAL_LOW_BIDS)] [(.int p1), (.ref w_IDENTICAL_LOW_BIDS)]) _
    refine XS.iloadN X13.here hx rfl (hb hby at_27) rfl ?_
    show own_S p e below T13 (mkF m 28 #[.val (.int p1), .val (.int p2), .val (.ref w_BID), .val (.int (1 : Int32)), .val (.ref w_IDENTICAL_LOW_BIDS)] [(.int (1 : Int32)), (.int p1), (.ref w_IDENTICAL_LOW_BIDS)]) _
    refine st16 _ ?_
    show own_S p e below T16 (mkF m 31 #[.val (.int p1), .val (.int p2), .val (.ref w_BID), .val (.int (1 : Int32)), .val (.ref w_IDENTICAL_LOW_BIDS)] [(.ref w_IDENTICAL_LOW_BIDS), (.ref w_IDENTICAL_LOW_BIDS)]) _
    refine Jvm.RoadKit.acmp (g := (mkF m 31 #[.val (.int p1), .val (.int p2), .val (.ref w_BID), .val (.int (1 : Int32)), .val (.ref w_IDENTICAL_LOW_BIDS)] [(.ref w_IDENTICAL_LOW_BIDS), (.ref w_IDENTICAL_LOW_BIDS)])) X16 hx rfl rfl rfl (pc0 := 31) (pc' := 34) (same := true) rfl (hb hby at_31) rfl (decide_eq_true rfl) (by decide) (by decide) ?_
    show own_S p e below T16 (mkF m 34 #[.val (.int p1), .val (.int p2), .val (.ref w_BID), .val (.int (1 : Int32)), .val (.ref w_IDENTICAL_LOW_BIDS)] []) _
    refine XS.iconst X16.here hx rfl (hb hby at_34) ?_
    show own_S p e below T16 (mkF m 35 #[.val (.int p1), .val (.int p2), .val (.ref w_BID), .val (.int (1 : Int32)), .val (.ref w_IDENTICAL_LOW_BIDS)] [(.int (1 : Int32))]) _
    refine XS.goto X16.here hx rfl (pc0 := 35) (pc' := 39) rfl (hb hby at_35) (by decide) (by decide) ?_
    show own_S p e below T16 (mkF m 39 #[.val (.int p1), .val (.int p2), .val (.ref w_BID), .val (.int (1 : Int32)), .val (.ref w_IDENTICAL_LOW_BIDS)] [(.int (1 : Int32))]) _
    exact retN X16 hx (t := .boolean) hret (by simp) (hb hby at_39) hr
  · show Qrm0_0_1 Z w_BID w_IDENTICAL_LOW_BIDS p1 p2 h0 _ T16.heap _
    exact ⟨rfl, N16⟩
def Qrm17 (Z : State) (w_PROPOSAL_POINTS : Addr) (p1 : Int32) (h0 : Heap) (v : Option Value) (h : Heap) (L : List Loc) : Prop := v = some (.ref w_PROPOSAL_POINTS) ∧ Fr Z.heap.size L ∧ h = h0
set_option maxRecDepth 65536 in
set_option maxHeartbeats 40000000 in
theorem rm17 (l : Launch) (Z : State) (a0 : Array Value) (hw : ∀ d ∈ tables_1, d.before a0 Z = true) (ws : List Jvm.Cond) (w_PROPOSAL_POINTS : Addr) (p1 : Int32) (h0 : Heap) (Z0 : Ext Z.heap h0) (S_w_PROPOSAL_POINTS : Sta Z Z.heap "com/example/zia_tally/ziatally/evaluation/Method" "PROPOSAL_POINTS" "Lcom/example/zia_tally/ziatally/evaluation/Method;" (.ref w_PROPOSAL_POINTS)) (hc4 : ((p1 &&& (2147483647 : Int32)) % (3 : Int32)) = (1 : Int32)) :
    own_met l y_0 method_2_code 2 (some (.object "com/example/zia_tally/ziatally/evaluation/Method")) ws ({ frames := 0, cells := 0, slots := 0, locals := 0 } : Room) Z #[(.int p1)] h0 (Qrm17 Z w_PROPOSAL_POINTS p1 h0) := by
  refine own_start (plainFor_of_name pn_0) (fun m => ef_method_2_I m p1) ?_
  intro p e s m below meth c s₁ hx hby hml hown hnm X0 hZ e0 hret hlk
  have N0 := Fr.nil Z.heap.size
  obtain ⟨T18, X18, e18, st18⟩ := getS2 X0 hx hZ hown (host := "") (Or.inl (own_w hw 29 rfl)) Via.refl e0 (S_w_PROPOSAL_POINTS.ext Z0) (g := (mkF m 20 #[.val (.int p1), .val (.int (1 : Int32))] [])) rfl (hb hby d_method_2_20)
  obtain ⟨fs, hr, hrun, hended, hW, hsame⟩ := X18.leave (v := some (.ref w_PROPOSAL_POINTS)) (fun h => by rw [hret] at h; cases h) hlk
  refine ⟨_, _, ?_, hrun, hended, _, _, rfl, ?_, ⟨_, rfl⟩, hW, hsame.mono (by decide) (by decide)⟩
  · show own_S p e below s₁ (mkF m 0 #[.val (.int p1), .unset] []) _
    refine XS.iloadN X0.here hx rfl (hb hby d_method_2_0) rfl ?_
    show own_S p e below s₁ (mkF m 1 #[.val (.int p1), .unset] [(.int p1)]) _
    refine X0.ldcInt hx hown (mvT hZ (own_w hw 4 rfl)) (g := (mkF m 1 #[.val (.int p1), .unset] [(.int p1)])) rfl (hb hby d_method_2_1) _ ?_
    show own_S p e below s₁ (mkF m 3 #[.val (.int p1), .unset] [(.int (2147483647 : Int32)), (.int p1)]) _
    refine XS.iand X0.here hx rfl (hb hby d_method_2_3) rfl ?_
    show own_S p e below s₁ (mkF m 4 #[.val (.int p1), .unset] [(.int (p1 &&& (2147483647 : Int32)))]) _
    refine XS.iconst X0.here hx rfl (hb hby d_method_2_4) ?_
    show own_S p e below s₁ (mkF m 5 #[.val (.int p1), .unset] [(.int (3 : Int32)), (.int (p1 &&& (2147483647 : Int32)))]) _
    refine iremM X0 hx rfl (hb hby d_method_2_5) rfl (by decide) ?_
    show own_S p e below s₁ (mkF m 6 #[.val (.int p1), .unset] [(.int ((p1 &&& (2147483647 : Int32)) % (3 : Int32)))]) _
    rw [hc4]
    show own_S p e below s₁ (mkF m 6 #[.val (.int p1), .unset] [(.int (1 : Int32))]) _
    refine XS.istoreN X0.here hx rfl (hb hby d_method_2_6) rfl (l' := #[.val (.int p1), .val (.int (1 : Int32))]) rfl ?_
    show own_S p e below s₁ (mkF m 7 #[.val (.int p1), .val (.int (1 : Int32))] []) _
    refine XS.iloadN X0.here hx rfl (hb hby d_method_2_7) rfl ?_
    show own_S p e below s₁ (mkF m 8 #[.val (.int p1), .val (.int (1 : Int32))] [(.int (1 : Int32))]) _
    refine XS.ifYes X0.here hx rfl (pc0 := 8) (pc' := 15) rfl (hb hby d_method_2_8) rfl ((if0 _ _).trans (feq (by decide : ¬ ((1 : Int32) = (0 : Int32)))).2) (by decide) (by decide) ?_
    show own_S p e below s₁ (mkF m 15 #[.val (.int p1), .val (.int (1 : Int32))] []) _
    refine XS.iloadN X0.here hx rfl (hb hby d_method_2_15) rfl ?_
    show own_S p e below s₁ (mkF m 16 #[.val (.int p1), .val (.int (1 : Int32))] [(.int (1 : Int32))]) _
    refine XS.iconst X0.here hx rfl (hb hby d_method_2_16) ?_
    show own_S p e below s₁ (mkF m 17 #[.val (.int p1), .val (.int (1 : Int32))] [(.int (1 : Int32)), (.int (1 : Int32))]) _
    refine XS.icmpNo X0.here hx rfl (hb hby d_method_2_17) rfl (teq (rfl : (1 : Int32) = (1 : Int32))).2 ?_
    show own_S p e below s₁ (mkF m 20 #[.val (.int p1), .val (.int (1 : Int32))] []) _
    refine st18 _ ?_
    show own_S p e below T18 (mkF m 23 #[.val (.int p1), .val (.int (1 : Int32))] [(.ref w_PROPOSAL_POINTS)]) _
    jvm_step X18.here [X18.here.top, hx, (hb hby d_method_2_23), X18.method', hret, Value.isRef, FieldType.isReference]
    first | (intro acts; rw [hr _ acts rfl rfl rfl]) | rw [hr _ _ rfl rfl rfl]
    exact Steps.refl _
  · show Qrm17 Z w_PROPOSAL_POINTS p1 h0 _ T18.heap _
    rw [e18]
    exact ⟨rfl, N0, rfl⟩
def Qrm20 (Z : State) (w_TOP_OFFEROR : Addr) (w_PROPOSAL_POINTS : Addr) (h0 : Heap) (v : Option Value) (h : Heap) (L : List Loc) : Prop := v = some (.ref w_TOP_OFFEROR) ∧ Fr Z.heap.size L ∧ h = h0
set_option maxRecDepth 65536 in
set_option maxHeartbeats 40000000 in
theorem rm20 (l : Launch) (Z : State) (a0 : Array Value) (hw : ∀ d ∈ tables_1, d.before a0 Z = true) (ws : List Jvm.Cond) (w_TOP_OFFEROR : Addr) (w_PROPOSAL_POINTS : Addr) (h0 : Heap) (Z0 : Ext Z.heap h0) (F_w_PROPOSAL_POINTS_single : Fld Z Z.heap w_PROPOSAL_POINTS "com/example/zia_tally/ziatally/evaluation/Method" "single" "Lcom/example/zia_tally/ziatally/evaluation/Outcome;" (.ref w_TOP_OFFEROR)) :
    own_met l y_1 prog_7_method_7_code 2 (some (.object "com/example/zia_tally/ziatally/evaluation/Outcome")) ws ({ frames := 0, cells := 0, slots := 0, locals := 0 } : Room) Z #[(.ref w_PROPOSAL_POINTS), (.int (0 : Int32))] h0 (Qrm20 Z w_TOP_OFFEROR w_PROPOSAL_POINTS h0) := by
  refine own_start (plainFor_of_name pn_1) (fun m => ef_prog_7_method_7_RI m w_PROPOSAL_POINTS (0 : Int32)) ?_
  intro p e s m below meth c s₁ hx hby hml hown hnm X0 hZ e0 hret hlk
  have N0 := Fr.nil Z.heap.size
  obtain ⟨T21, X21, e21, st21⟩ := getF X0 hx hZ hown (host := "") (Or.inl (own_w hw 25 rfl)) Via.refl e0 (F_w_PROPOSAL_POINTS_single.ext Z0) (g := (mkF m 12 #[.val (.ref w_PROPOSAL_POINTS), .val (.int (0 : Int32))] [(.ref w_PROPOSAL_POINTS)])) rfl rfl (hb hby d_prog_7_method_7_12)
  obtain ⟨fs, hr, hrun, hended, hW, hsame⟩ := X21.leave (v := some (.ref w_TOP_OFFEROR)) (fun h => by rw [hret] at h; cases h) hlk
  refine ⟨_, _, ?_, hrun, hended, _, _, rfl, ?_, ⟨_, rfl⟩, hW, hsame.mono (by decide) (by decide)⟩
  · show own_S p e below s₁ (mkF m 0 #[.val (.ref w_PROPOSAL_POINTS), .val (.int (0 : Int32))] []) _
    refine XS.iloadN X0.here hx rfl (hb hby d_prog_7_method_7_0) rfl ?_
    show own_S p e below s₁ (mkF m 1 #[.val (.ref w_PROPOSAL_POINTS), .val (.int (0 : Int32))] [(.int (0 : Int32))]) _
    refine XS.ifYes X0.here hx rfl (pc0 := 1) (pc' := 11) rfl (hb hby d_prog_7_method_7_1) rfl ((if0 _ _).trans (teq (rfl : (0 : Int32) = (0 : Int32))).1) (by decide) (by decide) ?_
    show own_S p e below s₁ (mkF m 11 #[.val (.ref w_PROPOSAL_POINTS), .val (.int (0 : Int32))] []) _
    refine XS.aloadN X0.here hx rfl (hb hby d_prog_7_method_7_11) rfl rfl ?_
    show own_S p e below s₁ (mkF m 12 #[.val (.ref w_PROPOSAL_POINTS), .val (.int (0 : Int32))] [(.ref w_PROPOSAL_POINTS)]) _
    refine st21 _ ?_
    show own_S p e below T21 (mkF m 15 #[.val (.ref w_PROPOSAL_POINTS), .val (.int (0 : Int32))] [(.ref w_TOP_OFFEROR)]) _
    jvm_step X21.here [X21.here.top, hx, (hb hby d_prog_7_method_7_15), X21.method', hret, Value.isRef, FieldType.isReference]
    first | (intro acts; rw [hr _ acts rfl rfl rfl]) | rw [hr _ _ rfl rfl rfl]
    exact Steps.refl _
  · show Qrm20 Z w_TOP_OFFEROR w_PROPOSAL_POINTS h0 _ T21.heap _
    rw [e21]
    exact ⟨rfl, N0, rfl⟩
def Qrm23 (Z : State) (w_TOP_OFFEROR : Addr) (p1 : Int32) (h0 : Heap) (v : Option Value) (h : Heap) (L : List Loc) : Prop := v = some (.ref w_TOP_OFFEROR) ∧ Fr Z.heap.size L ∧ h = h0
set_option maxRecDepth 65536 in
set_option maxHeartbeats 40000000 in
theorem rm23 (l : Launch) (Z : State) (a0 : Array Value) (hw : ∀ d ∈ tables_1, d.before a0 Z = true) (ws : List Jvm.Cond) (w_TOP_OFFEROR : Addr) (p1 : Int32) (h0 : Heap) (Z0 : Ext Z.heap h0) (S_w_TOP_OFFEROR : Sta Z Z.heap "com/example/zia_tally/ziatally/evaluation/Outcome" "TOP_OFFEROR" "Lcom/example/zia_tally/ziatally/evaluation/Outcome;" (.ref w_TOP_OFFEROR)) (hc4 : ((p1 &&& (2147483647 : Int32)) % (3 : Int32)) = (1 : Int32)) :
    own_met l y_2 method_3_code 3 (some (.object "com/example/zia_tally/ziatally/evaluation/Outcome")) ws ({ frames := 0, cells := 0, slots := 0, locals := 0 } : Room) Z #[(.int p1), (.int (0 : Int32))] h0 (Qrm23 Z w_TOP_OFFEROR p1 h0) := by
  refine own_start (plainFor_of_name pn_0) (fun m => ef_method_3_II m p1 (0 : Int32)) ?_
  intro p e s m below meth c s₁ hx hby hml hown hnm X0 hZ e0 hret hlk
  have N0 := Fr.nil Z.heap.size
  obtain ⟨T24, X24, e24, st24⟩ := getS2 X0 hx hZ hown (host := "") (Or.inl (own_w hw 28 rfl)) Via.refl e0 (S_w_TOP_OFFEROR.ext Z0) (g := (mkF m 31 #[.val (.int p1), .val (.int (0 : Int32)), .val (.int (1 : Int32))] [])) rfl (hb hby d_method_3_31)
  obtain ⟨fs, hr, hrun, hended, hW, hsame⟩ := X24.leave (v := some (.ref w_TOP_OFFEROR)) (fun h => by rw [hret] at h; cases h) hlk
  refine ⟨_, _, ?_, hrun, hended, _, _, rfl, ?_, ⟨_, rfl⟩, hW, hsame.mono (by decide) (by decide)⟩
  · show own_S p e below s₁ (mkF m 0 #[.val (.int p1), .val (.int (0 : Int32)), .unset] []) _
    refine XS.iloadN X0.here hx rfl (hb hby d_method_3_0) rfl ?_
    show own_S p e below s₁ (mkF m 1 #[.val (.int p1), .val (.int (0 : Int32)), .unset] [(.int p1)]) _
    refine X0.ldcInt hx hown (mvT hZ (own_w hw 4 rfl)) (g := (mkF m 1 #[.val (.int p1), .val (.int (0 : Int32)), .unset] [(.int p1)])) rfl (hb hby d_method_3_1) _ ?_
    show own_S p e below s₁ (mkF m 3 #[.val (.int p1), .val (.int (0 : Int32)), .unset] [(.int (2147483647 : Int32)), (.int p1)]) _
    refine XS.iand X0.here hx rfl (hb hby d_method_3_3) rfl ?_
    show own_S p e below s₁ (mkF m 4 #[.val (.int p1), .val (.int (0 : Int32)), .unset] [(.int (p1 &&& (2147483647 : Int32)))]) _
    refine XS.iconst X0.here hx rfl (hb hby d_method_3_4) ?_
    show own_S p e below s₁ (mkF m 5 #[.val (.int p1), .val (.int (0 : Int32)), .unset] [(.int (3 : Int32)), (.int (p1 &&& (2147483647 : Int32)))]) _
    refine iremM X0 hx rfl (hb hby d_method_3_5) rfl (by decide) ?_
    show own_S p e below s₁ (mkF m 6 #[.val (.int p1), .val (.int (0 : Int32)), .unset] [(.int ((p1 &&& (2147483647 : Int32)) % (3 : Int32)))]) _
    rw [hc4]
    show own_S p e below s₁ (mkF m 6 #[.val (.int p1), .val (.int (0 : Int32)), .unset] [(.int (1 : Int32))]) _
    refine XS.istoreN X0.here hx rfl (hb hby d_method_3_6) rfl (l' := #[.val (.int p1), .val (.int (0 : Int32)), .val (.int (1 : Int32))]) rfl ?_
    show own_S p e below s₁ (mkF m 7 #[.val (.int p1), .val (.int (0 : Int32)), .val (.int (1 : Int32))] []) _
    refine XS.iloadN X0.here hx rfl (hb hby d_method_3_7) rfl ?_
    show own_S p e below s₁ (mkF m 8 #[.val (.int p1), .val (.int (0 : Int32)), .val (.int (1 : Int32))] [(.int (1 : Int32))]) _
    refine XS.ifYes X0.here hx rfl (pc0 := 8) (pc' := 23) rfl (hb hby d_method_3_8) rfl ((if0 _ _).trans (feq (by decide : ¬ ((1 : Int32) = (0 : Int32)))).2) (by decide) (by decide) ?_
    show own_S p e below s₁ (mkF m 23 #[.val (.int p1), .val (.int (0 : Int32)), .val (.int (1 : Int32))] []) _
    refine XS.iloadN X0.here hx rfl (hb hby d_method_3_23) rfl ?_
    show own_S p e below s₁ (mkF m 24 #[.val (.int p1), .val (.int (0 : Int32)), .val (.int (1 : Int32))] [(.int (0 : Int32))]) _
    refine XS.ifYes X0.here hx rfl (pc0 := 24) (pc' := 31) rfl (hb hby d_method_3_24) rfl ((if0 _ _).trans (teq (rfl : (0 : Int32) = (0 : Int32))).1) (by decide) (by decide) ?_
    show own_S p e below s₁ (mkF m 31 #[.val (.int p1), .val (.int (0 : Int32)), .val (.int (1 : Int32))] []) _
    refine st24 _ ?_
    show own_S p e below T24 (mkF m 34 #[.val (.int p1), .val (.int (0 : Int32)), .val (.int (1 : Int32))] [(.ref w_TOP_OFFEROR)]) _
    jvm_step X24.here [X24.here.top, hx, (hb hby d_method_3_34), X24.method', hret, Value.isRef, FieldType.isReference]
    first | (intro acts; rw [hr _ acts rfl rfl rfl]) | rw [hr _ _ rfl rfl rfl]
    exact Steps.refl _
  · show Qrm23 Z w_TOP_OFFEROR p1 h0 _ T24.heap _
    rw [e24]
    exact ⟨rfl, N0, rfl⟩
def Qrm0_1_0 (Z : State) (w_TOP_OFFEROR : Addr) (w_PROPOSAL_POINTS : Addr) (p1 : Int32) (p2 : Int32) (h0 : Heap) (v : Option Value) (h : Heap) (L : List Loc) : Prop := v = some (.int 1) ∧ Fr Z.heap.size L
set_option maxRecDepth 65536 in
set_option maxHeartbeats 40000000 in
theorem rm0_1_0 (l : Launch) (Z : State) (a0 : Array Value) (hw : ∀ d ∈ tables_1, d.before a0 Z = true) (ws : List Jvm.Cond) (w_TOP_OFFEROR : Addr) (w_PROPOSAL_POINTS : Addr) (p1 : Int32) (p2 : Int32) (h0 : Heap) (Z0 : Ext Z.heap h0) (S_w_PROPOSAL_POINTS : Sta Z Z.heap "com/example/zia_tally/ziatally/evaluation/Method" "PROPOSAL_POINTS" "Lcom/example/zia_tally/ziatally/evaluation/Method;" (.ref w_PROPOSAL_POINTS)) (E_w_PROPOSAL_POINTS : Exa Z Z.heap w_PROPOSAL_POINTS "com/example/zia_tally/ziatally/evaluation/Method") (F_w_PROPOSAL_POINTS_single : Fld Z Z.heap w_PROPOSAL_POINTS "com/example/zia_tally/ziatally/evaluation/Method" "single" "Lcom/example/zia_tally/ziatally/evaluation/Outcome;" (.ref w_TOP_OFFEROR)) (S_w_TOP_OFFEROR : Sta Z Z.heap "com/example/zia_tally/ziatally/evaluation/Outcome" "TOP_OFFEROR" "Lcom/example/zia_tally/ziatally/evaluation/Outcome;" (.ref w_TOP_OFFEROR)) (hc4 : ((p1 &&& (2147483647 : Int32)) % (3 : Int32)) = (1 : Int32)) (hc2 : (p2 &&& (1 : Int32)) = (0 : Int32)) :
    own_met l x code maxLocals ret ws room_1 Z #[(.int p1), (.int p2)] h0 (Qrm0_1_0 Z w_TOP_OFFEROR w_PROPOSAL_POINTS p1 p2 h0) := by
  refine own_start (plainFor_of_name pn_0) (fun m => ef_code_II m p1 p2) ?_
  intro p e s m below meth c s₁ hx hby hml hown hnm X0 hZ e0 hret hlk
  have N0 := Fr.nil Z.heap.size
  obtain ⟨_, T19, Lc19, X19, hQ19, st19⟩ := own_static (y := y_0) X0 hx hZ hown (own_w hw 0 rfl) (own_w hw 1 rfl) (own_w hw 2 rfl) (own_w hw 3 rfl) (by decide) (rm17 l Z a0 hw [] w_PROPOSAL_POINTS p1 h0 Z0 S_w_PROPOSAL_POINTS hc4) (by decide) (by decide) e0 (g := (mkF m 1 #[.val (.int p1), .val (.int p2), .unset, .unset, .unset] [(.int p1)])) rfl (by rw [hml]; rfl) (argsL := [(.int p1)]) (rest := []) (lenOf pd_0 rfl) rfl rfl (W := 0) (by show 2 * 0 + _ ≤ _; exact Nat.le_of_eq rfl) (hb hby at_1) (by decide) (by decide)
  obtain ⟨rfl, N19q, e19⟩ := hQ19
  have N19 := Fr.app N0 N19q
  obtain ⟨_, T22, Lc22, X22, hQ22, st22⟩ := own_virtual (y := y_1) X19 hx hZ hown (own_w hw 8 rfl) (own_w hw 9 rfl) (own_w hw 11 rfl) (own_w hw 10 rfl) (own_w hw 6 rfl) (own_w hw 12 rfl) (by decide) (rm20 l Z a0 hw [] w_TOP_OFFEROR w_PROPOSAL_POINTS h0 Z0 F_w_PROPOSAL_POINTS_single) (by decide) (by decide) e19 (E_w_PROPOSAL_POINTS.ext Z0) (g := (mkF m 19 #[.val (.int p1), .val (.int p2), .val (.ref w_PROPOSAL_POINTS), .val (.int (0 : Int32)), .unset] [(.int (0 : Int32)), (.ref w_PROPOSAL_POINTS)])) rfl (by rw [hml]; rfl) (argsL := [(.int (0 : Int32))]) (rest := []) (lenOf pd_1 rfl) rfl rfl (W := 0) (by show 2 * 0 + _ ≤ _; exact Nat.le_of_eq rfl) (hb hby at_19) (by decide) (by decide)
  obtain ⟨rfl, N22q, e22⟩ := hQ22
  have N22 := Fr.app N19 N22q
  obtain ⟨_, T25, Lc25, X25, hQ25, st25⟩ := own_static (y := y_2) X22 hx hZ hown (own_w hw 17 rfl) (own_w hw 18 rfl) (own_w hw 2 rfl) (own_w hw 19 rfl) (by decide) (rm23 l Z a0 hw [] w_TOP_OFFEROR p1 h0 Z0 S_w_TOP_OFFEROR hc4) (by decide) (by decide) e22 (g := (mkF m 28 #[.val (.int p1), .val (.int p2), .val (.ref w_PROPOSAL_POINTS), .val (.int (0 : Int32)), .val (.ref w_TOP_OFFEROR)] [(.int (0 : Int32)), (.int p1), (.ref w_TOP_OFFEROR)])) rfl (by rw [hml]; rfl) (argsL := [(.int p1), (.int (0 : Int32))]) (rest := [(.ref w_TOP_OFFEROR)]) (lenOf pd_2 rfl) rfl rfl (W := 1) (by show 2 * 0 + _ ≤ _; exact Nat.le_of_eq rfl) (hb hby at_28) (by decide) (by decide)
  obtain ⟨rfl, N25q, e25⟩ := hQ25
  have N25 := Fr.app N22 N25q
  obtain ⟨fs, hr, hrun, hended, hW, hsame⟩ := X25.leave (v := some (.int (1 : Int32))) (fun h => by rw [hret] at h; cases h) hlk
  refine ⟨_, _, ?_, hrun, hended, _, _, rfl, ?_, ⟨_, rfl⟩, hW, hsame.mono (by decide) (by decide)⟩
  · show own_S p e below s₁ (mkF m 0 #[.val (.int p1), .val (.int p2), .unset, .unset, .unset] []) _
    refine XS.iloadN X0.here hx rfl (hb hby at_0) rfl ?_
    show own_S p e below s₁ (mkF m 1 #[.val (.int p1), .val (.int p2), .unset, .unset, .unset] [(.int p1)]) _
    refine st19 _ ?_
    show own_S p e below T19 (mkF m 4 #[.val (.int p1), .val (.int p2), .unset, .unset, .unset] [(.ref w_PROPOSAL_POINTS)]) _
    refine XS.astoreN X19.here hx rfl (hb hby at_4) rfl rfl (l' := #[.val (.int p1), .val (.int p2), .val (.ref w_PROPOSAL_POINTS), .unset, .unset]) rfl ?_
    show own_S p e below T19 (mkF m 5 #[.val (.int p1), .val (.int p2), .val (.ref w_PROPOSAL_POINTS), .unset, .unset] []) _
    refine XS.iloadN X19.here hx rfl (hb hby at_5) rfl ?_
    show own_S p e below T19 (mkF m 6 #[.val (.int p1), .val (.int p2), .val (.ref w_PROPOSAL_POINTS), .unset, .unset] [(.int p2)]) _
    refine XS.iconst X19.here hx rfl (hb hby at_6) ?_
    show own_S p e below T19 (mkF m 7 #[.val (.int p1), .val (.int p2), .val (.ref w_PROPOSAL_POINTS), .unset, .unset] [(.int (1 : Int32)), (.int p2)]) _
    refine XS.iand X19.here hx rfl (hb hby at_7) rfl ?_
    show own_S p e below T19 (mkF m 8 #[.val (.int p1), .val (.int p2), .val (.ref w_PROPOSAL_POINTS), .unset, .unset] [(.int (p2 &&& (1 : Int32)))]) _
    rw [hc2]
    show own_S p e below T19 (mkF m 8 #[.val (.int p1), .val (.int p2), .val (.ref w_PROPOSAL_POINTS), .unset, .unset] [(.int (0 : Int32))]) _
    refine XS.ifYes X19.here hx rfl (pc0 := 8) (pc' := 15) rfl (hb hby at_8) rfl ((if0 _ _).trans (teq (rfl : (0 : Int32) = (0 : Int32))).1) (by decide) (by decide) ?_
    show own_S p e below T19 (mkF m 15 #[.val (.int p1), .val (.int p2), .val (.ref w_PROPOSAL_POINTS), .unset, .unset] []) _
    refine XS.iconst X19.here hx rfl (hb hby at_15) ?_
    show own_S p e below T19 (mkF m 16 #[.val (.int p1), .val (.int p2), .val (.ref w_PROPOSAL_POINTS), .unset, .unset] [(.int (0 : Int32))]) _
    refine XS.istoreN X19.here hx rfl (hb hby at_16) rfl (l' := #[.val (.int p1), .val (.int p2), .val (.ref w_PROPOSAL_POINTS), .val (.int (0 : Int32)), .unset]) rfl ?_
    show own_S p e below T19 (mkF m 17 #[.val (.int p1), .val (.int p2), .val (.ref w_PROPOSAL_POINTS), .val (.int (0 : Int32)), .unset] []) _
    refine XS.aloadN X19.here hx rfl (hb hby at_17) rfl rfl ?_
    show own_S p e below T19 (mkF m 18 #[.val (.int p1), .val (.int p2), .val (.ref w_PROPOSAL_POINTS), .val (.int (0 : Int32)), .unset] [(.ref w_PROPOSAL_POINTS)]) _
    refine XS.iloadN X19.here hx rfl (hb hby at_18) rfl ?_
    show own_S p e below T19 (mkF m 19 #[.val (.int p1), .val (.int p2), .val (.ref w_PROPOSAL_POINTS), .val (.int (0 : Int32)), .unset] [(.int (0 : Int32)), (.ref w_PROPOSAL_POINTS)]) _
    refine st22 _ ?_
    show own_S p e below T22 (mkF m 22 #[.val (.int p1), .val (.int p2), .val (.ref w_PROPOSAL_POINTS), .val (.int (0 : Int32)), .unset] [(.ref w_TOP_OFFEROR)]) _
    refine XS.astore X22.here hx rfl (hb hby at_22) rfl rfl (l' := #[.val (.int p1), .val (.int p2), .val (.ref w_PROPOSAL_POINTS), .val (.int (0 : Int32)), .val (.ref w_TOP_OFFEROR)]) rfl ?_
    show own_S p e below T22 (mkF m 24 #[.val (.int p1), .val (.int p2), .val (.ref w_PROPOSAL_POINTS), .val (.int (0 : Int32)), .val (.ref w_TOP_OFFEROR)] []) _
    refine XS.aload X22.here hx rfl (hb hby at_24) rfl rfl ?_
    show own_S p e below T22 (mkF m 26 #[.val (.int p1), .val (.int p2), .val (.ref w_PROPOSAL_POINTS), .val (.int (0 : Int32)), .val (.ref w_TOP_OFFEROR)] [(.ref w_TOP_OFFEROR)]) _
    refine XS.iloadN X22.here hx rfl (hb hby at_26) rfl ?_
    show own_S p e below T22 (mkF m 27 #[.val (.int p1), .val (.int p2), .val (.ref w_PROPOSAL_POINTS), .val (.int (0 : Int32)), .val (.ref w_TOP_OFFEROR)] [(.int p1), (.ref w_TOP_OFFEROR)]) _
    refine XS.iloadN X22.here hx rfl (hb hby at_27) rfl ?_
    show own_S p e below T22 (mkF m 28 #[.val (.int p1), .val (.int p2), .val (.ref w_PROPOSAL_POINTS), .val (.int (0 : Int32)), .val (.ref w_TOP_OFFEROR)] [(.int (0 : Int32)), (.int p1), (.ref w_TOP_OFFEROR)]) _
    refine st25 _ ?_
    show own_S p e below T25 (mkF m 31 #[.val (.int p1), .val (.int p2), .val (.ref w_PROPOSAL_POINTS), .val (.int (0 : Int32)), .val (.ref w_TOP_OFFEROR)] [(.ref w_TOP_OFFEROR), (.ref w_TOP_OFFEROR)]) _
    refine Jvm.RoadKit.acmp (g := (mkF m 31 #[.val (.int p1), .val (.int p2), .val (.ref w_PROPOSAL_POINTS), .val (.int (0 : Int32)), .val (.ref w_TOP_OFFEROR)] [(.ref w_TOP_OFFEROR), (.ref w_TOP_OFFEROR)])) X25 hx rfl rfl rfl (pc0 := 31) (pc' := 34) (same := true) rfl (hb hby at_31) rfl (decide_eq_true rfl) (by decide) (by decide) ?_
    show own_S p e below T25 (mkF m 34 #[.val (.int p1), .val (.int p2), .val (.ref w_PROPOSAL_POINTS), .val (.int (0 : Int32)), .val (.ref w_TOP_OFFEROR)] []) _
    refine XS.iconst X25.here hx rfl (hb hby at_34) ?_
    show own_S p e below T25 (mkF m 35 #[.val (.int p1), .val (.int p2), .val (.ref w_PROPOSAL_POINTS), .val (.int (0 : Int32)), .val (.ref w_TOP_OFFEROR)] [(.int (1 : Int32))]) _
    refine XS.goto X25.here hx rfl (pc0 := 35) (pc' := 39) rfl (hb hby at_35) (by decide) (by decide) ?_
    show own_S p e below T25 (mkF m 39 #[.val (.int p1), .val (.int p2), .val (.ref w_PROPOSAL_POINTS), .val (.int (0 : Int32)), .val (.ref w_TOP_OFFEROR)] [(.int (1 : Int32))]) _
    exact retN X25 hx (t := .boolean) hret (by simp) (hb hby at_39) hr
  · show Qrm0_1_0 Z w_TOP_OFFEROR w_PROPOSAL_POINTS p1 p2 h0 _ T25.heap _
    exact ⟨rfl, N25⟩
def Qrm27 (Z : State) (w_IDENTICAL_TOP_SCORES : Addr) (w_PROPOSAL_POINTS : Addr) (h0 : Heap) (v : Option Value) (h : Heap) (L : List Loc) : Prop := v = some (.ref w_IDENTICAL_TOP_SCORES) ∧ Fr Z.heap.size L ∧ h = h0
set_option maxRecDepth 65536 in
set_option maxHeartbeats 40000000 in
theorem rm27 (l : Launch) (Z : State) (a0 : Array Value) (hw : ∀ d ∈ tables_1, d.before a0 Z = true) (ws : List Jvm.Cond) (w_IDENTICAL_TOP_SCORES : Addr) (w_PROPOSAL_POINTS : Addr) (h0 : Heap) (Z0 : Ext Z.heap h0) (F_w_PROPOSAL_POINTS_tied : Fld Z Z.heap w_PROPOSAL_POINTS "com/example/zia_tally/ziatally/evaluation/Method" "tied" "Lcom/example/zia_tally/ziatally/evaluation/Outcome;" (.ref w_IDENTICAL_TOP_SCORES)) :
    own_met l y_1 prog_7_method_7_code 2 (some (.object "com/example/zia_tally/ziatally/evaluation/Outcome")) ws ({ frames := 0, cells := 0, slots := 0, locals := 0 } : Room) Z #[(.ref w_PROPOSAL_POINTS), (.int (1 : Int32))] h0 (Qrm27 Z w_IDENTICAL_TOP_SCORES w_PROPOSAL_POINTS h0) := by
  refine own_start (plainFor_of_name pn_1) (fun m => ef_prog_7_method_7_RI m w_PROPOSAL_POINTS (1 : Int32)) ?_
  intro p e s m below meth c s₁ hx hby hml hown hnm X0 hZ e0 hret hlk
  have N0 := Fr.nil Z.heap.size
  obtain ⟨T28, X28, e28, st28⟩ := getF X0 hx hZ hown (host := "") (Or.inl (own_w hw 13 rfl)) Via.refl e0 (F_w_PROPOSAL_POINTS_tied.ext Z0) (g := (mkF m 5 #[.val (.ref w_PROPOSAL_POINTS), .val (.int (1 : Int32))] [(.ref w_PROPOSAL_POINTS)])) rfl rfl (hb hby d_prog_7_method_7_5)
  obtain ⟨fs, hr, hrun, hended, hW, hsame⟩ := X28.leave (v := some (.ref w_IDENTICAL_TOP_SCORES)) (fun h => by rw [hret] at h; cases h) hlk
  refine ⟨_, _, ?_, hrun, hended, _, _, rfl, ?_, ⟨_, rfl⟩, hW, hsame.mono (by decide) (by decide)⟩
  · show own_S p e below s₁ (mkF m 0 #[.val (.ref w_PROPOSAL_POINTS), .val (.int (1 : Int32))] []) _
    refine XS.iloadN X0.here hx rfl (hb hby d_prog_7_method_7_0) rfl ?_
    show own_S p e below s₁ (mkF m 1 #[.val (.ref w_PROPOSAL_POINTS), .val (.int (1 : Int32))] [(.int (1 : Int32))]) _
    refine XS.ifNo X0.here hx rfl (hb hby d_prog_7_method_7_1) rfl ((if0 _ _).trans (feq (by decide : ¬ ((1 : Int32) = (0 : Int32)))).1) ?_
    show own_S p e below s₁ (mkF m 4 #[.val (.ref w_PROPOSAL_POINTS), .val (.int (1 : Int32))] []) _
    refine XS.aloadN X0.here hx rfl (hb hby d_prog_7_method_7_4) rfl rfl ?_
    show own_S p e below s₁ (mkF m 5 #[.val (.ref w_PROPOSAL_POINTS), .val (.int (1 : Int32))] [(.ref w_PROPOSAL_POINTS)]) _
    refine st28 _ ?_
    show own_S p e below T28 (mkF m 8 #[.val (.ref w_PROPOSAL_POINTS), .val (.int (1 : Int32))] [(.ref w_IDENTICAL_TOP_SCORES)]) _
    refine XS.goto X28.here hx rfl (pc0 := 8) (pc' := 15) rfl (hb hby d_prog_7_method_7_8) (by decide) (by decide) ?_
    show own_S p e below T28 (mkF m 15 #[.val (.ref w_PROPOSAL_POINTS), .val (.int (1 : Int32))] [(.ref w_IDENTICAL_TOP_SCORES)]) _
    jvm_step X28.here [X28.here.top, hx, (hb hby d_prog_7_method_7_15), X28.method', hret, Value.isRef, FieldType.isReference]
    first | (intro acts; rw [hr _ acts rfl rfl rfl]) | rw [hr _ _ rfl rfl rfl]
    exact Steps.refl _
  · show Qrm27 Z w_IDENTICAL_TOP_SCORES w_PROPOSAL_POINTS h0 _ T28.heap _
    rw [e28]
    exact ⟨rfl, N0, rfl⟩
def Qrm30 (Z : State) (w_IDENTICAL_TOP_SCORES : Addr) (p1 : Int32) (h0 : Heap) (v : Option Value) (h : Heap) (L : List Loc) : Prop := v = some (.ref w_IDENTICAL_TOP_SCORES) ∧ Fr Z.heap.size L ∧ h = h0
set_option maxRecDepth 65536 in
set_option maxHeartbeats 40000000 in
theorem rm30 (l : Launch) (Z : State) (a0 : Array Value) (hw : ∀ d ∈ tables_1, d.before a0 Z = true) (ws : List Jvm.Cond) (w_IDENTICAL_TOP_SCORES : Addr) (p1 : Int32) (h0 : Heap) (Z0 : Ext Z.heap h0) (S_w_IDENTICAL_TOP_SCORES : Sta Z Z.heap "com/example/zia_tally/ziatally/evaluation/Outcome" "IDENTICAL_TOP_SCORES" "Lcom/example/zia_tally/ziatally/evaluation/Outcome;" (.ref w_IDENTICAL_TOP_SCORES)) (hc4 : ((p1 &&& (2147483647 : Int32)) % (3 : Int32)) = (1 : Int32)) :
    own_met l y_2 method_3_code 3 (some (.object "com/example/zia_tally/ziatally/evaluation/Outcome")) ws ({ frames := 0, cells := 0, slots := 0, locals := 0 } : Room) Z #[(.int p1), (.int (1 : Int32))] h0 (Qrm30 Z w_IDENTICAL_TOP_SCORES p1 h0) := by
  refine own_start (plainFor_of_name pn_0) (fun m => ef_method_3_II m p1 (1 : Int32)) ?_
  intro p e s m below meth c s₁ hx hby hml hown hnm X0 hZ e0 hret hlk
  have N0 := Fr.nil Z.heap.size
  obtain ⟨T31, X31, e31, st31⟩ := getS2 X0 hx hZ hown (host := "") (Or.inl (own_w hw 24 rfl)) Via.refl e0 (S_w_IDENTICAL_TOP_SCORES.ext Z0) (g := (mkF m 27 #[.val (.int p1), .val (.int (1 : Int32)), .val (.int (1 : Int32))] [])) rfl (hb hby d_method_3_27)
  obtain ⟨fs, hr, hrun, hended, hW, hsame⟩ := X31.leave (v := some (.ref w_IDENTICAL_TOP_SCORES)) (fun h => by rw [hret] at h; cases h) hlk
  refine ⟨_, _, ?_, hrun, hended, _, _, rfl, ?_, ⟨_, rfl⟩, hW, hsame.mono (by decide) (by decide)⟩
  · show own_S p e below s₁ (mkF m 0 #[.val (.int p1), .val (.int (1 : Int32)), .unset] []) _
    refine XS.iloadN X0.here hx rfl (hb hby d_method_3_0) rfl ?_
    show own_S p e below s₁ (mkF m 1 #[.val (.int p1), .val (.int (1 : Int32)), .unset] [(.int p1)]) _
    refine X0.ldcInt hx hown (mvT hZ (own_w hw 4 rfl)) (g := (mkF m 1 #[.val (.int p1), .val (.int (1 : Int32)), .unset] [(.int p1)])) rfl (hb hby d_method_3_1) _ ?_
    show own_S p e below s₁ (mkF m 3 #[.val (.int p1), .val (.int (1 : Int32)), .unset] [(.int (2147483647 : Int32)), (.int p1)]) _
    refine XS.iand X0.here hx rfl (hb hby d_method_3_3) rfl ?_
    show own_S p e below s₁ (mkF m 4 #[.val (.int p1), .val (.int (1 : Int32)), .unset] [(.int (p1 &&& (2147483647 : Int32)))]) _
    refine XS.iconst X0.here hx rfl (hb hby d_method_3_4) ?_
    show own_S p e below s₁ (mkF m 5 #[.val (.int p1), .val (.int (1 : Int32)), .unset] [(.int (3 : Int32)), (.int (p1 &&& (2147483647 : Int32)))]) _
    refine iremM X0 hx rfl (hb hby d_method_3_5) rfl (by decide) ?_
    show own_S p e below s₁ (mkF m 6 #[.val (.int p1), .val (.int (1 : Int32)), .unset] [(.int ((p1 &&& (2147483647 : Int32)) % (3 : Int32)))]) _
    rw [hc4]
    show own_S p e below s₁ (mkF m 6 #[.val (.int p1), .val (.int (1 : Int32)), .unset] [(.int (1 : Int32))]) _
    refine XS.istoreN X0.here hx rfl (hb hby d_method_3_6) rfl (l' := #[.val (.int p1), .val (.int (1 : Int32)), .val (.int (1 : Int32))]) rfl ?_
    show own_S p e below s₁ (mkF m 7 #[.val (.int p1), .val (.int (1 : Int32)), .val (.int (1 : Int32))] []) _
    refine XS.iloadN X0.here hx rfl (hb hby d_method_3_7) rfl ?_
    show own_S p e below s₁ (mkF m 8 #[.val (.int p1), .val (.int (1 : Int32)), .val (.int (1 : Int32))] [(.int (1 : Int32))]) _
    refine XS.ifYes X0.here hx rfl (pc0 := 8) (pc' := 23) rfl (hb hby d_method_3_8) rfl ((if0 _ _).trans (feq (by decide : ¬ ((1 : Int32) = (0 : Int32)))).2) (by decide) (by decide) ?_
    show own_S p e below s₁ (mkF m 23 #[.val (.int p1), .val (.int (1 : Int32)), .val (.int (1 : Int32))] []) _
    refine XS.iloadN X0.here hx rfl (hb hby d_method_3_23) rfl ?_
    show own_S p e below s₁ (mkF m 24 #[.val (.int p1), .val (.int (1 : Int32)), .val (.int (1 : Int32))] [(.int (1 : Int32))]) _
    refine XS.ifNo X0.here hx rfl (hb hby d_method_3_24) rfl ((if0 _ _).trans (feq (by decide : ¬ ((1 : Int32) = (0 : Int32)))).1) ?_
    show own_S p e below s₁ (mkF m 27 #[.val (.int p1), .val (.int (1 : Int32)), .val (.int (1 : Int32))] []) _
    refine st31 _ ?_
    show own_S p e below T31 (mkF m 30 #[.val (.int p1), .val (.int (1 : Int32)), .val (.int (1 : Int32))] [(.ref w_IDENTICAL_TOP_SCORES)]) _
    jvm_step X31.here [X31.here.top, hx, (hb hby d_method_3_30), X31.method', hret, Value.isRef, FieldType.isReference]
    first | (intro acts; rw [hr _ acts rfl rfl rfl]) | rw [hr _ _ rfl rfl rfl]
    exact Steps.refl _
  · show Qrm30 Z w_IDENTICAL_TOP_SCORES p1 h0 _ T31.heap _
    rw [e31]
    exact ⟨rfl, N0, rfl⟩
def Qrm0_1_1 (Z : State) (w_IDENTICAL_TOP_SCORES : Addr) (w_PROPOSAL_POINTS : Addr) (p1 : Int32) (p2 : Int32) (h0 : Heap) (v : Option Value) (h : Heap) (L : List Loc) : Prop := v = some (.int 1) ∧ Fr Z.heap.size L
set_option maxRecDepth 65536 in
set_option maxHeartbeats 40000000 in
theorem rm0_1_1 (l : Launch) (Z : State) (a0 : Array Value) (hw : ∀ d ∈ tables_1, d.before a0 Z = true) (ws : List Jvm.Cond) (w_IDENTICAL_TOP_SCORES : Addr) (w_PROPOSAL_POINTS : Addr) (p1 : Int32) (p2 : Int32) (h0 : Heap) (Z0 : Ext Z.heap h0) (S_w_PROPOSAL_POINTS : Sta Z Z.heap "com/example/zia_tally/ziatally/evaluation/Method" "PROPOSAL_POINTS" "Lcom/example/zia_tally/ziatally/evaluation/Method;" (.ref w_PROPOSAL_POINTS)) (E_w_PROPOSAL_POINTS : Exa Z Z.heap w_PROPOSAL_POINTS "com/example/zia_tally/ziatally/evaluation/Method") (F_w_PROPOSAL_POINTS_tied : Fld Z Z.heap w_PROPOSAL_POINTS "com/example/zia_tally/ziatally/evaluation/Method" "tied" "Lcom/example/zia_tally/ziatally/evaluation/Outcome;" (.ref w_IDENTICAL_TOP_SCORES)) (S_w_IDENTICAL_TOP_SCORES : Sta Z Z.heap "com/example/zia_tally/ziatally/evaluation/Outcome" "IDENTICAL_TOP_SCORES" "Lcom/example/zia_tally/ziatally/evaluation/Outcome;" (.ref w_IDENTICAL_TOP_SCORES)) (hc4 : ((p1 &&& (2147483647 : Int32)) % (3 : Int32)) = (1 : Int32)) (hc3 : (p2 &&& (1 : Int32)) = (1 : Int32)) :
    own_met l x code maxLocals ret ws room_1 Z #[(.int p1), (.int p2)] h0 (Qrm0_1_1 Z w_IDENTICAL_TOP_SCORES w_PROPOSAL_POINTS p1 p2 h0) := by
  refine own_start (plainFor_of_name pn_0) (fun m => ef_code_II m p1 p2) ?_
  intro p e s m below meth c s₁ hx hby hml hown hnm X0 hZ e0 hret hlk
  have N0 := Fr.nil Z.heap.size
  obtain ⟨_, T26, Lc26, X26, hQ26, st26⟩ := own_static (y := y_0) X0 hx hZ hown (own_w hw 0 rfl) (own_w hw 1 rfl) (own_w hw 2 rfl) (own_w hw 3 rfl) (by decide) (rm17 l Z a0 hw [] w_PROPOSAL_POINTS p1 h0 Z0 S_w_PROPOSAL_POINTS hc4) (by decide) (by decide) e0 (g := (mkF m 1 #[.val (.int p1), .val (.int p2), .unset, .unset, .unset] [(.int p1)])) rfl (by rw [hml]; rfl) (argsL := [(.int p1)]) (rest := []) (lenOf pd_0 rfl) rfl rfl (W := 0) (by show 2 * 0 + _ ≤ _; exact Nat.le_of_eq rfl) (hb hby at_1) (by decide) (by decide)
  obtain ⟨rfl, N26q, e26⟩ := hQ26
  have N26 := Fr.app N0 N26q
  obtain ⟨_, T29, Lc29, X29, hQ29, st29⟩ := own_virtual (y := y_1) X26 hx hZ hown (own_w hw 8 rfl) (own_w hw 9 rfl) (own_w hw 11 rfl) (own_w hw 10 rfl) (own_w hw 6 rfl) (own_w hw 12 rfl) (by decide) (rm27 l Z a0 hw [] w_IDENTICAL_TOP_SCORES w_PROPOSAL_POINTS h0 Z0 F_w_PROPOSAL_POINTS_tied) (by decide) (by decide) e26 (E_w_PROPOSAL_POINTS.ext Z0) (g := (mkF m 19 #[.val (.int p1), .val (.int p2), .val (.ref w_PROPOSAL_POINTS), .val (.int (1 : Int32)), .unset] [(.int (1 : Int32)), (.ref w_PROPOSAL_POINTS)])) rfl (by rw [hml]; rfl) (argsL := [(.int (1 : Int32))]) (rest := []) (lenOf pd_1 rfl) rfl rfl (W := 0) (by show 2 * 0 + _ ≤ _; exact Nat.le_of_eq rfl) (hb hby at_19) (by decide) (by decide)
  obtain ⟨rfl, N29q, e29⟩ := hQ29
  have N29 := Fr.app N26 N29q
  obtain ⟨_, T32, Lc32, X32, hQ32, st32⟩ := own_static (y := y_2) X29 hx hZ hown (own_w hw 17 rfl) (own_w hw 18 rfl) (own_w hw 2 rfl) (own_w hw 19 rfl) (by decide) (rm30 l Z a0 hw [] w_IDENTICAL_TOP_SCORES p1 h0 Z0 S_w_IDENTICAL_TOP_SCORES hc4) (by decide) (by decide) e29 (g := (mkF m 28 #[.val (.int p1), .val (.int p2), .val (.ref w_PROPOSAL_POINTS), .val (.int (1 : Int32)), .val (.ref w_IDENTICAL_TOP_SCORES)] [(.int (1 : Int32)), (.int p1), (.ref w_IDENTICAL_TOP_SCORES)])) rfl (by rw [hml]; rfl) (argsL := [(.int p1), (.int (1 : Int32))]) (rest := [(.ref w_IDENTICAL_TOP_SCORES)]) (lenOf pd_2 rfl) rfl rfl (W := 1) (by show 2 * 0 + _ ≤ _; exact Nat.le_of_eq rfl) (hb hby at_28) (by decide) (by decide)
  obtain ⟨rfl, N32q, e32⟩ := hQ32
  have N32 := Fr.app N29 N32q
  obtain ⟨fs, hr, hrun, hended, hW, hsame⟩ := X32.leave (v := some (.int (1 : Int32))) (fun h => by rw [hret] at h; cases h) hlk
  refine ⟨_, _, ?_, hrun, hended, _, _, rfl, ?_, ⟨_, rfl⟩, hW, hsame.mono (by decide) (by decide)⟩
  · show own_S p e below s₁ (mkF m 0 #[.val (.int p1), .val (.int p2), .unset, .unset, .unset] []) _
    refine XS.iloadN X0.here hx rfl (hb hby at_0) rfl ?_
    show own_S p e below s₁ (mkF m 1 #[.val (.int p1), .val (.int p2), .unset, .unset, .unset] [(.int p1)]) _
    refine st26 _ ?_
    show own_S p e below T26 (mkF m 4 #[.val (.int p1), .val (.int p2), .unset, .unset, .unset] [(.ref w_PROPOSAL_POINTS)]) _
    refine XS.astoreN X26.here hx rfl (hb hby at_4) rfl rfl (l' := #[.val (.int p1), .val (.int p2), .val (.ref w_PROPOSAL_POINTS), .unset, .unset]) rfl ?_
    show own_S p e below T26 (mkF m 5 #[.val (.int p1), .val (.int p2), .val (.ref w_PROPOSAL_POINTS), .unset, .unset] []) _
    refine XS.iloadN X26.here hx rfl (hb hby at_5) rfl ?_
    show own_S p e below T26 (mkF m 6 #[.val (.int p1), .val (.int p2), .val (.ref w_PROPOSAL_POINTS), .unset, .unset] [(.int p2)]) _
    refine XS.iconst X26.here hx rfl (hb hby at_6) ?_
    show own_S p e below T26 (mkF m 7 #[.val (.int p1), .val (.int p2), .val (.ref w_PROPOSAL_POINTS), .unset, .unset] [(.int (1 : Int32)), (.int p2)]) _
    refine XS.iand X26.here hx rfl (hb hby at_7) rfl ?_
    show own_S p e below T26 (mkF m 8 #[.val (.int p1), .val (.int p2), .val (.ref w_PROPOSAL_POINTS), .unset, .unset] [(.int (p2 &&& (1 : Int32)))]) _
    rw [hc3]
    show own_S p e below T26 (mkF m 8 #[.val (.int p1), .val (.int p2), .val (.ref w_PROPOSAL_POINTS), .unset, .unset] [(.int (1 : Int32))]) _
    refine XS.ifNo X26.here hx rfl (hb hby at_8) rfl ((if0 _ _).trans (feq (by decide : ¬ ((1 : Int32) = (0 : Int32)))).1) ?_
    show own_S p e below T26 (mkF m 11 #[.val (.int p1), .val (.int p2), .val (.ref w_PROPOSAL_POINTS), .unset, .unset] []) _
    refine XS.iconst X26.here hx rfl (hb hby at_11) ?_
    show own_S p e below T26 (mkF m 12 #[.val (.int p1), .val (.int p2), .val (.ref w_PROPOSAL_POINTS), .unset, .unset] [(.int (1 : Int32))]) _
    refine XS.goto X26.here hx rfl (pc0 := 12) (pc' := 16) rfl (hb hby at_12) (by decide) (by decide) ?_
    show own_S p e below T26 (mkF m 16 #[.val (.int p1), .val (.int p2), .val (.ref w_PROPOSAL_POINTS), .unset, .unset] [(.int (1 : Int32))]) _
    refine XS.istoreN X26.here hx rfl (hb hby at_16) rfl (l' := #[.val (.int p1), .val (.int p2), .val (.ref w_PROPOSAL_POINTS), .val (.int (1 : Int32)), .unset]) rfl ?_
    show own_S p e below T26 (mkF m 17 #[.val (.int p1), .val (.int p2), .val (.ref w_PROPOSAL_POINTS), .val (.int (1 : Int32)), .unset] []) _
    refine XS.aloadN X26.here hx rfl (hb hby at_17) rfl rfl ?_
    show own_S p e below T26 (mkF m 18 #[.val (.int p1), .val (.int p2), .val (.ref w_PROPOSAL_POINTS), .val (.int (1 : Int32)), .unset] [(.ref w_PROPOSAL_POINTS)]) _
    refine XS.iloadN X26.here hx rfl (hb hby at_18) rfl ?_
    show own_S p e below T26 (mkF m 19 #[.val (.int p1), .val (.int p2), .val (.ref w_PROPOSAL_POINTS), .val (.int (1 : Int32)), .unset] [(.int (1 : Int32)), (.ref w_PROPOSAL_POINTS)]) _
    refine st29 _ ?_
    show own_S p e below T29 (mkF m 22 #[.val (.int p1), .val (.int p2), .val (.ref w_PROPOSAL_POINTS), .val (.int (1 : Int32)), .unset] [(.ref w_IDENTICAL_TOP_SCORES)]) _
    refine XS.astore X29.here hx rfl (hb hby at_22) rfl rfl (l' := #[.val (.int p1), .val (.int p2), .val (.ref w_PROPOSAL_POINTS), .val (.int (1 : Int32)), .val (.ref w_IDENTICAL_TOP_SCORES)]) rfl ?_
    show own_S p e below T29 (mkF m 24 #[.val (.int p1), .val (.int p2), .val (.ref w_PROPOSAL_POINTS), .val (.int (1 : Int32)), .val (.ref w_IDENTICAL_TOP_SCORES)] []) _
    refine XS.aload X29.here hx rfl (hb hby at_24) rfl rfl ?_
    show own_S p e below T29 (mkF m 26 #[.val (.int p1), .val (.int p2), .val (.ref w_PROPOSAL_POINTS), .val (.int (1 : Int32)), .val (.ref w_IDENTICAL_TOP_SCORES)] [(.ref w_IDENTICAL_TOP_SCORES)]) _
    refine XS.iloadN X29.here hx rfl (hb hby at_26) rfl ?_
    show own_S p e below T29 (mkF m 27 #[.val (.int p1), .val (.int p2), .val (.ref w_PROPOSAL_POINTS), .val (.int (1 : Int32)), .val (.ref w_IDENTICAL_TOP_SCORES)] [(.int p1), (.ref w_IDENTICAL_TOP_SCORES)]) _
    refine XS.iloadN X29.here hx rfl (hb hby at_27) rfl ?_
    show own_S p e below T29 (mkF m 28 #[.val (.int p1), .val (.int p2), .val (.ref w_PROPOSAL_POINTS), .val (.int (1 : Int32)), .val (.ref w_IDENTICAL_TOP_SCORES)] [(.int (1 : Int32)), (.int p1), (.ref w_IDENTICAL_TOP_SCORES)]) _
    refine st32 _ ?_
    show own_S p e below T32 (mkF m 31 #[.val (.int p1), .val (.int p2), .val (.ref w_PROPOSAL_POINTS), .val (.int (1 : Int32)), .val (.ref w_IDENTICAL_TOP_SCORES)] [(.ref w_IDENTICAL_TOP_SCORES), (.ref w_IDENTICAL_TOP_SCORES)]) _
    refine Jvm.RoadKit.acmp (g := (mkF m 31 #[.val (.int p1), .val (.int p2), .val (.ref w_PROPOSAL_POINTS), .val (.int (1 : Int32)), .val (.ref w_IDENTICAL_TOP_SCORES)] [(.ref w_IDENTICAL_TOP_SCORES), (.ref w_IDENTICAL_TOP_SCORES)])) X32 hx rfl rfl rfl (pc0 := 31) (pc' := 34) (same := true) rfl (hb hby at_31) rfl (decide_eq_true rfl) (by decide) (by decide) ?_
    show own_S p e below T32 (mkF m 34 #[.val (.int p1), .val (.int p2), .val (.ref w_PROPOSAL_POINTS), .val (.int (1 : Int32)), .val (.ref w_IDENTICAL_TOP_SCORES)] []) _
    refine XS.iconst X32.here hx rfl (hb hby at_34) ?_
    show own_S p e below T32 (mkF m 35 #[.val (.int p1), .val (.int p2), .val (.ref w_PROPOSAL_POINTS), .val (.int (1 : Int32)), .val (.ref w_IDENTICAL_TOP_SCORES)] [(.int (1 : Int32))]) _
    refine XS.goto X32.here hx rfl (pc0 := 35) (pc' := 39) rfl (hb hby at_35) (by decide) (by decide) ?_
    show own_S p e below T32 (mkF m 39 #[.val (.int p1), .val (.int p2), .val (.ref w_PROPOSAL_POINTS), .val (.int (1 : Int32)), .val (.ref w_IDENTICAL_TOP_SCORES)] [(.int (1 : Int32))]) _
    exact retN X32 hx (t := .boolean) hret (by simp) (hb hby at_39) hr
  · show Qrm0_1_1 Z w_IDENTICAL_TOP_SCORES w_PROPOSAL_POINTS p1 p2 h0 _ T32.heap _
    exact ⟨rfl, N32⟩
def Qrm33 (Z : State) (w_PROPOSAL_WEIGHTS : Addr) (p1 : Int32) (h0 : Heap) (v : Option Value) (h : Heap) (L : List Loc) : Prop := v = some (.ref w_PROPOSAL_WEIGHTS) ∧ Fr Z.heap.size L ∧ h = h0
set_option maxRecDepth 65536 in
set_option maxHeartbeats 40000000 in
theorem rm33 (l : Launch) (Z : State) (a0 : Array Value) (hw : ∀ d ∈ tables_1, d.before a0 Z = true) (ws : List Jvm.Cond) (w_PROPOSAL_WEIGHTS : Addr) (p1 : Int32) (h0 : Heap) (Z0 : Ext Z.heap h0) (S_w_PROPOSAL_WEIGHTS : Sta Z Z.heap "com/example/zia_tally/ziatally/evaluation/Method" "PROPOSAL_WEIGHTS" "Lcom/example/zia_tally/ziatally/evaluation/Method;" (.ref w_PROPOSAL_WEIGHTS)) (hc5 : ((p1 &&& (2147483647 : Int32)) % (3 : Int32)) = (2 : Int32)) :
    own_met l y_0 method_2_code 2 (some (.object "com/example/zia_tally/ziatally/evaluation/Method")) ws ({ frames := 0, cells := 0, slots := 0, locals := 0 } : Room) Z #[(.int p1)] h0 (Qrm33 Z w_PROPOSAL_WEIGHTS p1 h0) := by
  refine own_start (plainFor_of_name pn_0) (fun m => ef_method_2_I m p1) ?_
  intro p e s m below meth c s₁ hx hby hml hown hnm X0 hZ e0 hret hlk
  have N0 := Fr.nil Z.heap.size
  obtain ⟨T34, X34, e34, st34⟩ := getS2 X0 hx hZ hown (host := "") (Or.inl (own_w hw 21 rfl)) Via.refl e0 (S_w_PROPOSAL_WEIGHTS.ext Z0) (g := (mkF m 24 #[.val (.int p1), .val (.int (2 : Int32))] [])) rfl (hb hby d_method_2_24)
  obtain ⟨fs, hr, hrun, hended, hW, hsame⟩ := X34.leave (v := some (.ref w_PROPOSAL_WEIGHTS)) (fun h => by rw [hret] at h; cases h) hlk
  refine ⟨_, _, ?_, hrun, hended, _, _, rfl, ?_, ⟨_, rfl⟩, hW, hsame.mono (by decide) (by decide)⟩
  · show own_S p e below s₁ (mkF m 0 #[.val (.int p1), .unset] []) _
    refine XS.iloadN X0.here hx rfl (hb hby d_method_2_0) rfl ?_
    show own_S p e below s₁ (mkF m 1 #[.val (.int p1), .unset] [(.int p1)]) _
    refine X0.ldcInt hx hown (mvT hZ (own_w hw 4 rfl)) (g := (mkF m 1 #[.val (.int p1), .unset] [(.int p1)])) rfl (hb hby d_method_2_1) _ ?_
    show own_S p e below s₁ (mkF m 3 #[.val (.int p1), .unset] [(.int (2147483647 : Int32)), (.int p1)]) _
    refine XS.iand X0.here hx rfl (hb hby d_method_2_3) rfl ?_
    show own_S p e below s₁ (mkF m 4 #[.val (.int p1), .unset] [(.int (p1 &&& (2147483647 : Int32)))]) _
    refine XS.iconst X0.here hx rfl (hb hby d_method_2_4) ?_
    show own_S p e below s₁ (mkF m 5 #[.val (.int p1), .unset] [(.int (3 : Int32)), (.int (p1 &&& (2147483647 : Int32)))]) _
    refine iremM X0 hx rfl (hb hby d_method_2_5) rfl (by decide) ?_
    show own_S p e below s₁ (mkF m 6 #[.val (.int p1), .unset] [(.int ((p1 &&& (2147483647 : Int32)) % (3 : Int32)))]) _
    rw [hc5]
    show own_S p e below s₁ (mkF m 6 #[.val (.int p1), .unset] [(.int (2 : Int32))]) _
    refine XS.istoreN X0.here hx rfl (hb hby d_method_2_6) rfl (l' := #[.val (.int p1), .val (.int (2 : Int32))]) rfl ?_
    show own_S p e below s₁ (mkF m 7 #[.val (.int p1), .val (.int (2 : Int32))] []) _
    refine XS.iloadN X0.here hx rfl (hb hby d_method_2_7) rfl ?_
    show own_S p e below s₁ (mkF m 8 #[.val (.int p1), .val (.int (2 : Int32))] [(.int (2 : Int32))]) _
    refine XS.ifYes X0.here hx rfl (pc0 := 8) (pc' := 15) rfl (hb hby d_method_2_8) rfl ((if0 _ _).trans (feq (by decide : ¬ ((2 : Int32) = (0 : Int32)))).2) (by decide) (by decide) ?_
    show own_S p e below s₁ (mkF m 15 #[.val (.int p1), .val (.int (2 : Int32))] []) _
    refine XS.iloadN X0.here hx rfl (hb hby d_method_2_15) rfl ?_
    show own_S p e below s₁ (mkF m 16 #[.val (.int p1), .val (.int (2 : Int32))] [(.int (2 : Int32))]) _
    refine XS.iconst X0.here hx rfl (hb hby d_method_2_16) ?_
    show own_S p e below s₁ (mkF m 17 #[.val (.int p1), .val (.int (2 : Int32))] [(.int (1 : Int32)), (.int (2 : Int32))]) _
    refine XS.icmpYes X0.here hx rfl (pc0 := 17) (pc' := 24) rfl (hb hby d_method_2_17) rfl (feq (by decide : ¬ ((2 : Int32) = (1 : Int32)))).2 (by decide) (by decide) ?_
    show own_S p e below s₁ (mkF m 24 #[.val (.int p1), .val (.int (2 : Int32))] []) _
    refine st34 _ ?_
    show own_S p e below T34 (mkF m 27 #[.val (.int p1), .val (.int (2 : Int32))] [(.ref w_PROPOSAL_WEIGHTS)]) _
    jvm_step X34.here [X34.here.top, hx, (hb hby d_method_2_27), X34.method', hret, Value.isRef, FieldType.isReference]
    first | (intro acts; rw [hr _ acts rfl rfl rfl]) | rw [hr _ _ rfl rfl rfl]
    exact Steps.refl _
  · show Qrm33 Z w_PROPOSAL_WEIGHTS p1 h0 _ T34.heap _
    rw [e34]
    exact ⟨rfl, N0, rfl⟩
def Qrm36 (Z : State) (w_PROPOSAL_WEIGHTS : Addr) (w_TOP_OFFEROR : Addr) (h0 : Heap) (v : Option Value) (h : Heap) (L : List Loc) : Prop := v = some (.ref w_TOP_OFFEROR) ∧ Fr Z.heap.size L ∧ h = h0
set_option maxRecDepth 65536 in
set_option maxHeartbeats 40000000 in
theorem rm36 (l : Launch) (Z : State) (a0 : Array Value) (hw : ∀ d ∈ tables_1, d.before a0 Z = true) (ws : List Jvm.Cond) (w_PROPOSAL_WEIGHTS : Addr) (w_TOP_OFFEROR : Addr) (h0 : Heap) (Z0 : Ext Z.heap h0) (F_w_PROPOSAL_WEIGHTS_single : Fld Z Z.heap w_PROPOSAL_WEIGHTS "com/example/zia_tally/ziatally/evaluation/Method" "single" "Lcom/example/zia_tally/ziatally/evaluation/Outcome;" (.ref w_TOP_OFFEROR)) :
    own_met l y_1 prog_7_method_7_code 2 (some (.object "com/example/zia_tally/ziatally/evaluation/Outcome")) ws ({ frames := 0, cells := 0, slots := 0, locals := 0 } : Room) Z #[(.ref w_PROPOSAL_WEIGHTS), (.int (0 : Int32))] h0 (Qrm36 Z w_PROPOSAL_WEIGHTS w_TOP_OFFEROR h0) := by
  refine own_start (plainFor_of_name pn_1) (fun m => ef_prog_7_method_7_RI m w_PROPOSAL_WEIGHTS (0 : Int32)) ?_
  intro p e s m below meth c s₁ hx hby hml hown hnm X0 hZ e0 hret hlk
  have N0 := Fr.nil Z.heap.size
  obtain ⟨T37, X37, e37, st37⟩ := getF X0 hx hZ hown (host := "") (Or.inl (own_w hw 25 rfl)) Via.refl e0 (F_w_PROPOSAL_WEIGHTS_single.ext Z0) (g := (mkF m 12 #[.val (.ref w_PROPOSAL_WEIGHTS), .val (.int (0 : Int32))] [(.ref w_PROPOSAL_WEIGHTS)])) rfl rfl (hb hby d_prog_7_method_7_12)
  obtain ⟨fs, hr, hrun, hended, hW, hsame⟩ := X37.leave (v := some (.ref w_TOP_OFFEROR)) (fun h => by rw [hret] at h; cases h) hlk
  refine ⟨_, _, ?_, hrun, hended, _, _, rfl, ?_, ⟨_, rfl⟩, hW, hsame.mono (by decide) (by decide)⟩
  · show own_S p e below s₁ (mkF m 0 #[.val (.ref w_PROPOSAL_WEIGHTS), .val (.int (0 : Int32))] []) _
    refine XS.iloadN X0.here hx rfl (hb hby d_prog_7_method_7_0) rfl ?_
    show own_S p e below s₁ (mkF m 1 #[.val (.ref w_PROPOSAL_WEIGHTS), .val (.int (0 : Int32))] [(.int (0 : Int32))]) _
    refine XS.ifYes X0.here hx rfl (pc0 := 1) (pc' := 11) rfl (hb hby d_prog_7_method_7_1) rfl ((if0 _ _).trans (teq (rfl : (0 : Int32) = (0 : Int32))).1) (by decide) (by decide) ?_
    show own_S p e below s₁ (mkF m 11 #[.val (.ref w_PROPOSAL_WEIGHTS), .val (.int (0 : Int32))] []) _
    refine XS.aloadN X0.here hx rfl (hb hby d_prog_7_method_7_11) rfl rfl ?_
    show own_S p e below s₁ (mkF m 12 #[.val (.ref w_PROPOSAL_WEIGHTS), .val (.int (0 : Int32))] [(.ref w_PROPOSAL_WEIGHTS)]) _
    refine st37 _ ?_
    show own_S p e below T37 (mkF m 15 #[.val (.ref w_PROPOSAL_WEIGHTS), .val (.int (0 : Int32))] [(.ref w_TOP_OFFEROR)]) _
    jvm_step X37.here [X37.here.top, hx, (hb hby d_prog_7_method_7_15), X37.method', hret, Value.isRef, FieldType.isReference]
    first | (intro acts; rw [hr _ acts rfl rfl rfl]) | rw [hr _ _ rfl rfl rfl]
    exact Steps.refl _
  · show Qrm36 Z w_PROPOSAL_WEIGHTS w_TOP_OFFEROR h0 _ T37.heap _
    rw [e37]
    exact ⟨rfl, N0, rfl⟩
def Qrm39 (Z : State) (w_TOP_OFFEROR : Addr) (p1 : Int32) (h0 : Heap) (v : Option Value) (h : Heap) (L : List Loc) : Prop := v = some (.ref w_TOP_OFFEROR) ∧ Fr Z.heap.size L ∧ h = h0
set_option maxRecDepth 65536 in
set_option maxHeartbeats 40000000 in
theorem rm39 (l : Launch) (Z : State) (a0 : Array Value) (hw : ∀ d ∈ tables_1, d.before a0 Z = true) (ws : List Jvm.Cond) (w_TOP_OFFEROR : Addr) (p1 : Int32) (h0 : Heap) (Z0 : Ext Z.heap h0) (S_w_TOP_OFFEROR : Sta Z Z.heap "com/example/zia_tally/ziatally/evaluation/Outcome" "TOP_OFFEROR" "Lcom/example/zia_tally/ziatally/evaluation/Outcome;" (.ref w_TOP_OFFEROR)) (hc5 : ((p1 &&& (2147483647 : Int32)) % (3 : Int32)) = (2 : Int32)) :
    own_met l y_2 method_3_code 3 (some (.object "com/example/zia_tally/ziatally/evaluation/Outcome")) ws ({ frames := 0, cells := 0, slots := 0, locals := 0 } : Room) Z #[(.int p1), (.int (0 : Int32))] h0 (Qrm39 Z w_TOP_OFFEROR p1 h0) := by
  refine own_start (plainFor_of_name pn_0) (fun m => ef_method_3_II m p1 (0 : Int32)) ?_
  intro p e s m below meth c s₁ hx hby hml hown hnm X0 hZ e0 hret hlk
  have N0 := Fr.nil Z.heap.size
  obtain ⟨T40, X40, e40, st40⟩ := getS2 X0 hx hZ hown (host := "") (Or.inl (own_w hw 28 rfl)) Via.refl e0 (S_w_TOP_OFFEROR.ext Z0) (g := (mkF m 31 #[.val (.int p1), .val (.int (0 : Int32)), .val (.int (2 : Int32))] [])) rfl (hb hby d_method_3_31)
  obtain ⟨fs, hr, hrun, hended, hW, hsame⟩ := X40.leave (v := some (.ref w_TOP_OFFEROR)) (fun h => by rw [hret] at h; cases h) hlk
  refine ⟨_, _, ?_, hrun, hended, _, _, rfl, ?_, ⟨_, rfl⟩, hW, hsame.mono (by decide) (by decide)⟩
  · show own_S p e below s₁ (mkF m 0 #[.val (.int p1), .val (.int (0 : Int32)), .unset] []) _
    refine XS.iloadN X0.here hx rfl (hb hby d_method_3_0) rfl ?_
    show own_S p e below s₁ (mkF m 1 #[.val (.int p1), .val (.int (0 : Int32)), .unset] [(.int p1)]) _
    refine X0.ldcInt hx hown (mvT hZ (own_w hw 4 rfl)) (g := (mkF m 1 #[.val (.int p1), .val (.int (0 : Int32)), .unset] [(.int p1)])) rfl (hb hby d_method_3_1) _ ?_
    show own_S p e below s₁ (mkF m 3 #[.val (.int p1), .val (.int (0 : Int32)), .unset] [(.int (2147483647 : Int32)), (.int p1)]) _
    refine XS.iand X0.here hx rfl (hb hby d_method_3_3) rfl ?_
    show own_S p e below s₁ (mkF m 4 #[.val (.int p1), .val (.int (0 : Int32)), .unset] [(.int (p1 &&& (2147483647 : Int32)))]) _
    refine XS.iconst X0.here hx rfl (hb hby d_method_3_4) ?_
    show own_S p e below s₁ (mkF m 5 #[.val (.int p1), .val (.int (0 : Int32)), .unset] [(.int (3 : Int32)), (.int (p1 &&& (2147483647 : Int32)))]) _
    refine iremM X0 hx rfl (hb hby d_method_3_5) rfl (by decide) ?_
    show own_S p e below s₁ (mkF m 6 #[.val (.int p1), .val (.int (0 : Int32)), .unset] [(.int ((p1 &&& (2147483647 : Int32)) % (3 : Int32)))]) _
    rw [hc5]
    show own_S p e below s₁ (mkF m 6 #[.val (.int p1), .val (.int (0 : Int32)), .unset] [(.int (2 : Int32))]) _
    refine XS.istoreN X0.here hx rfl (hb hby d_method_3_6) rfl (l' := #[.val (.int p1), .val (.int (0 : Int32)), .val (.int (2 : Int32))]) rfl ?_
    show own_S p e below s₁ (mkF m 7 #[.val (.int p1), .val (.int (0 : Int32)), .val (.int (2 : Int32))] []) _
    refine XS.iloadN X0.here hx rfl (hb hby d_method_3_7) rfl ?_
    show own_S p e below s₁ (mkF m 8 #[.val (.int p1), .val (.int (0 : Int32)), .val (.int (2 : Int32))] [(.int (2 : Int32))]) _
    refine XS.ifYes X0.here hx rfl (pc0 := 8) (pc' := 23) rfl (hb hby d_method_3_8) rfl ((if0 _ _).trans (feq (by decide : ¬ ((2 : Int32) = (0 : Int32)))).2) (by decide) (by decide) ?_
    show own_S p e below s₁ (mkF m 23 #[.val (.int p1), .val (.int (0 : Int32)), .val (.int (2 : Int32))] []) _
    refine XS.iloadN X0.here hx rfl (hb hby d_method_3_23) rfl ?_
    show own_S p e below s₁ (mkF m 24 #[.val (.int p1), .val (.int (0 : Int32)), .val (.int (2 : Int32))] [(.int (0 : Int32))]) _
    refine XS.ifYes X0.here hx rfl (pc0 := 24) (pc' := 31) rfl (hb hby d_method_3_24) rfl ((if0 _ _).trans (teq (rfl : (0 : Int32) = (0 : Int32))).1) (by decide) (by decide) ?_
    show own_S p e below s₁ (mkF m 31 #[.val (.int p1), .val (.int (0 : Int32)), .val (.int (2 : Int32))] []) _
    refine st40 _ ?_
    show own_S p e below T40 (mkF m 34 #[.val (.int p1), .val (.int (0 : Int32)), .val (.int (2 : Int32))] [(.ref w_TOP_OFFEROR)]) _
    jvm_step X40.here [X40.here.top, hx, (hb hby d_method_3_34), X40.method', hret, Value.isRef, FieldType.isReference]
    first | (intro acts; rw [hr _ acts rfl rfl rfl]) | rw [hr _ _ rfl rfl rfl]
    exact Steps.refl _
  · show Qrm39 Z w_TOP_OFFEROR p1 h0 _ T40.heap _
    rw [e40]
    exact ⟨rfl, N0, rfl⟩
def Qrm0_2_0 (Z : State) (w_PROPOSAL_WEIGHTS : Addr) (w_TOP_OFFEROR : Addr) (p1 : Int32) (p2 : Int32) (h0 : Heap) (v : Option Value) (h : Heap) (L : List Loc) : Prop := v = some (.int 1) ∧ Fr Z.heap.size L
set_option maxRecDepth 65536 in
set_option maxHeartbeats 40000000 in
theorem rm0_2_0 (l : Launch) (Z : State) (a0 : Array Value) (hw : ∀ d ∈ tables_1, d.before a0 Z = true) (ws : List Jvm.Cond) (w_PROPOSAL_WEIGHTS : Addr) (w_TOP_OFFEROR : Addr) (p1 : Int32) (p2 : Int32) (h0 : Heap) (Z0 : Ext Z.heap h0) (S_w_PROPOSAL_WEIGHTS : Sta Z Z.heap "com/example/zia_tally/ziatally/evaluation/Method" "PROPOSAL_WEIGHTS" "Lcom/example/zia_tally/ziatally/evaluation/Method;" (.ref w_PROPOSAL_WEIGHTS)) (E_w_PROPOSAL_WEIGHTS : Exa Z Z.heap w_PROPOSAL_WEIGHTS "com/example/zia_tally/ziatally/evaluation/Method") (F_w_PROPOSAL_WEIGHTS_single : Fld Z Z.heap w_PROPOSAL_WEIGHTS "com/example/zia_tally/ziatally/evaluation/Method" "single" "Lcom/example/zia_tally/ziatally/evaluation/Outcome;" (.ref w_TOP_OFFEROR)) (S_w_TOP_OFFEROR : Sta Z Z.heap "com/example/zia_tally/ziatally/evaluation/Outcome" "TOP_OFFEROR" "Lcom/example/zia_tally/ziatally/evaluation/Outcome;" (.ref w_TOP_OFFEROR)) (hc5 : ((p1 &&& (2147483647 : Int32)) % (3 : Int32)) = (2 : Int32)) (hc2 : (p2 &&& (1 : Int32)) = (0 : Int32)) :
    own_met l x code maxLocals ret ws room_1 Z #[(.int p1), (.int p2)] h0 (Qrm0_2_0 Z w_PROPOSAL_WEIGHTS w_TOP_OFFEROR p1 p2 h0) := by
  refine own_start (plainFor_of_name pn_0) (fun m => ef_code_II m p1 p2) ?_
  intro p e s m below meth c s₁ hx hby hml hown hnm X0 hZ e0 hret hlk
  have N0 := Fr.nil Z.heap.size
  obtain ⟨_, T35, Lc35, X35, hQ35, st35⟩ := own_static (y := y_0) X0 hx hZ hown (own_w hw 0 rfl) (own_w hw 1 rfl) (own_w hw 2 rfl) (own_w hw 3 rfl) (by decide) (rm33 l Z a0 hw [] w_PROPOSAL_WEIGHTS p1 h0 Z0 S_w_PROPOSAL_WEIGHTS hc5) (by decide) (by decide) e0 (g := (mkF m 1 #[.val (.int p1), .val (.int p2), .unset, .unset, .unset] [(.int p1)])) rfl (by rw [hml]; rfl) (argsL := [(.int p1)]) (rest := []) (lenOf pd_0 rfl) rfl rfl (W := 0) (by show 2 * 0 + _ ≤ _; exact Nat.le_of_eq rfl) (hb hby at_1) (by decide) (by decide)
  obtain ⟨rfl, N35q, e35⟩ := hQ35
  have N35 := Fr.app N0 N35q
  obtain ⟨_, T38, Lc38, X38, hQ38, st38⟩ := own_virtual (y := y_1) X35 hx hZ hown (own_w hw 8 rfl) (own_w hw 9 rfl) (own_w hw 11 rfl) (own_w hw 10 rfl) (own_w hw 6 rfl) (own_w hw 12 rfl) (by decide) (rm36 l Z a0 hw [] w_PROPOSAL_WEIGHTS w_TOP_OFFEROR h0 Z0 F_w_PROPOSAL_WEIGHTS_single) (by decide) (by decide) e35 (E_w_PROPOSAL_WEIGHTS.ext Z0) (g := (mkF m 19 #[.val (.int p1), .val (.int p2), .val (.ref w_PROPOSAL_WEIGHTS), .val (.int (0 : Int32)), .unset] [(.int (0 : Int32)), (.ref w_PROPOSAL_WEIGHTS)])) rfl (by rw [hml]; rfl) (argsL := [(.int (0 : Int32))]) (rest := []) (lenOf pd_1 rfl) rfl rfl (W := 0) (by show 2 * 0 + _ ≤ _; exact Nat.le_of_eq rfl) (hb hby at_19) (by decide) (by decide)
  obtain ⟨rfl, N38q, e38⟩ := hQ38
  have N38 := Fr.app N35 N38q
  obtain ⟨_, T41, Lc41, X41, hQ41, st41⟩ := own_static (y := y_2) X38 hx hZ hown (own_w hw 17 rfl) (own_w hw 18 rfl) (own_w hw 2 rfl) (own_w hw 19 rfl) (by decide) (rm39 l Z a0 hw [] w_TOP_OFFEROR p1 h0 Z0 S_w_TOP_OFFEROR hc5) (by decide) (by decide) e38 (g := (mkF m 28 #[.val (.int p1), .val (.int p2), .val (.ref w_PROPOSAL_WEIGHTS), .val (.int (0 : Int32)), .val (.ref w_TOP_OFFEROR)] [(.int (0 : Int32)), (.int p1), (.ref w_TOP_OFFEROR)])) rfl (by rw [hml]; rfl) (argsL := [(.int p1), (.int (0 : Int32))]) (rest := [(.ref w_TOP_OFFEROR)]) (lenOf pd_2 rfl) rfl rfl (W := 1) (by show 2 * 0 + _ ≤ _; exact Nat.le_of_eq rfl) (hb hby at_28) (by decide) (by decide)
  obtain ⟨rfl, N41q, e41⟩ := hQ41
  have N41 := Fr.app N38 N41q
  obtain ⟨fs, hr, hrun, hended, hW, hsame⟩ := X41.leave (v := some (.int (1 : Int32))) (fun h => by rw [hret] at h; cases h) hlk
  refine ⟨_, _, ?_, hrun, hended, _, _, rfl, ?_, ⟨_, rfl⟩, hW, hsame.mono (by decide) (by decide)⟩
  · show own_S p e below s₁ (mkF m 0 #[.val (.int p1), .val (.int p2), .unset, .unset, .unset] []) _
    refine XS.iloadN X0.here hx rfl (hb hby at_0) rfl ?_
    show own_S p e below s₁ (mkF m 1 #[.val (.int p1), .val (.int p2), .unset, .unset, .unset] [(.int p1)]) _
    refine st35 _ ?_
    show own_S p e below T35 (mkF m 4 #[.val (.int p1), .val (.int p2), .unset, .unset, .unset] [(.ref w_PROPOSAL_WEIGHTS)]) _
    refine XS.astoreN X35.here hx rfl (hb hby at_4) rfl rfl (l' := #[.val (.int p1), .val (.int p2), .val (.ref w_PROPOSAL_WEIGHTS), .unset, .unset]) rfl ?_
    show own_S p e below T35 (mkF m 5 #[.val (.int p1), .val (.int p2), .val (.ref w_PROPOSAL_WEIGHTS), .unset, .unset] []) _
    refine XS.iloadN X35.here hx rfl (hb hby at_5) rfl ?_
    show own_S p e below T35 (mkF m 6 #[.val (.int p1), .val (.int p2), .val (.ref w_PROPOSAL_WEIGHTS), .unset, .unset] [(.int p2)]) _
    refine XS.iconst X35.here hx rfl (hb hby at_6) ?_
    show own_S p e below T35 (mkF m 7 #[.val (.int p1), .val (.int p2), .val (.ref w_PROPOSAL_WEIGHTS), .unset, .unset] [(.int (1 : Int32)), (.int p2)]) _
    refine XS.iand X35.here hx rfl (hb hby at_7) rfl ?_
    show own_S p e below T35 (mkF m 8 #[.val (.int p1), .val (.int p2), .val (.ref w_PROPOSAL_WEIGHTS), .unset, .unset] [(.int (p2 &&& (1 : Int32)))]) _
    rw [hc2]
    show own_S p e below T35 (mkF m 8 #[.val (.int p1), .val (.int p2), .val (.ref w_PROPOSAL_WEIGHTS), .unset, .unset] [(.int (0 : Int32))]) _
    refine XS.ifYes X35.here hx rfl (pc0 := 8) (pc' := 15) rfl (hb hby at_8) rfl ((if0 _ _).trans (teq (rfl : (0 : Int32) = (0 : Int32))).1) (by decide) (by decide) ?_
    show own_S p e below T35 (mkF m 15 #[.val (.int p1), .val (.int p2), .val (.ref w_PROPOSAL_WEIGHTS), .unset, .unset] []) _
    refine XS.iconst X35.here hx rfl (hb hby at_15) ?_
    show own_S p e below T35 (mkF m 16 #[.val (.int p1), .val (.int p2), .val (.ref w_PROPOSAL_WEIGHTS), .unset, .unset] [(.int (0 : Int32))]) _
    refine XS.istoreN X35.here hx rfl (hb hby at_16) rfl (l' := #[.val (.int p1), .val (.int p2), .val (.ref w_PROPOSAL_WEIGHTS), .val (.int (0 : Int32)), .unset]) rfl ?_
    show own_S p e below T35 (mkF m 17 #[.val (.int p1), .val (.int p2), .val (.ref w_PROPOSAL_WEIGHTS), .val (.int (0 : Int32)), .unset] []) _
    refine XS.aloadN X35.here hx rfl (hb hby at_17) rfl rfl ?_
    show own_S p e below T35 (mkF m 18 #[.val (.int p1), .val (.int p2), .val (.ref w_PROPOSAL_WEIGHTS), .val (.int (0 : Int32)), .unset] [(.ref w_PROPOSAL_WEIGHTS)]) _
    refine XS.iloadN X35.here hx rfl (hb hby at_18) rfl ?_
    show own_S p e below T35 (mkF m 19 #[.val (.int p1), .val (.int p2), .val (.ref w_PROPOSAL_WEIGHTS), .val (.int (0 : Int32)), .unset] [(.int (0 : Int32)), (.ref w_PROPOSAL_WEIGHTS)]) _
    refine st38 _ ?_
    show own_S p e below T38 (mkF m 22 #[.val (.int p1), .val (.int p2), .val (.ref w_PROPOSAL_WEIGHTS), .val (.int (0 : Int32)), .unset] [(.ref w_TOP_OFFEROR)]) _
    refine XS.astore X38.here hx rfl (hb hby at_22) rfl rfl (l' := #[.val (.int p1), .val (.int p2), .val (.ref w_PROPOSAL_WEIGHTS), .val (.int (0 : Int32)), .val (.ref w_TOP_OFFEROR)]) rfl ?_
    show own_S p e below T38 (mkF m 24 #[.val (.int p1), .val (.int p2), .val (.ref w_PROPOSAL_WEIGHTS), .val (.int (0 : Int32)), .val (.ref w_TOP_OFFEROR)] []) _
    refine XS.aload X38.here hx rfl (hb hby at_24) rfl rfl ?_
    show own_S p e below T38 (mkF m 26 #[.val (.int p1), .val (.int p2), .val (.ref w_PROPOSAL_WEIGHTS), .val (.int (0 : Int32)), .val (.ref w_TOP_OFFEROR)] [(.ref w_TOP_OFFEROR)]) _
    refine XS.iloadN X38.here hx rfl (hb hby at_26) rfl ?_
    show own_S p e below T38 (mkF m 27 #[.val (.int p1), .val (.int p2), .val (.ref w_PROPOSAL_WEIGHTS), .val (.int (0 : Int32)), .val (.ref w_TOP_OFFEROR)] [(.int p1), (.ref w_TOP_OFFEROR)]) _
    refine XS.iloadN X38.here hx rfl (hb hby at_27) rfl ?_
    show own_S p e below T38 (mkF m 28 #[.val (.int p1), .val (.int p2), .val (.ref w_PROPOSAL_WEIGHTS), .val (.int (0 : Int32)), .val (.ref w_TOP_OFFEROR)] [(.int (0 : Int32)), (.int p1), (.ref w_TOP_OFFEROR)]) _
    refine st41 _ ?_
    show own_S p e below T41 (mkF m 31 #[.val (.int p1), .val (.int p2), .val (.ref w_PROPOSAL_WEIGHTS), .val (.int (0 : Int32)), .val (.ref w_TOP_OFFEROR)] [(.ref w_TOP_OFFEROR), (.ref w_TOP_OFFEROR)]) _
    refine Jvm.RoadKit.acmp (g := (mkF m 31 #[.val (.int p1), .val (.int p2), .val (.ref w_PROPOSAL_WEIGHTS), .val (.int (0 : Int32)), .val (.ref w_TOP_OFFEROR)] [(.ref w_TOP_OFFEROR), (.ref w_TOP_OFFEROR)])) X41 hx rfl rfl rfl (pc0 := 31) (pc' := 34) (same := true) rfl (hb hby at_31) rfl (decide_eq_true rfl) (by decide) (by decide) ?_
    show own_S p e below T41 (mkF m 34 #[.val (.int p1), .val (.int p2), .val (.ref w_PROPOSAL_WEIGHTS), .val (.int (0 : Int32)), .val (.ref w_TOP_OFFEROR)] []) _
    refine XS.iconst X41.here hx rfl (hb hby at_34) ?_
    show own_S p e below T41 (mkF m 35 #[.val (.int p1), .val (.int p2), .val (.ref w_PROPOSAL_WEIGHTS), .val (.int (0 : Int32)), .val (.ref w_TOP_OFFEROR)] [(.int (1 : Int32))]) _
    refine XS.goto X41.here hx rfl (pc0 := 35) (pc' := 39) rfl (hb hby at_35) (by decide) (by decide) ?_
    show own_S p e below T41 (mkF m 39 #[.val (.int p1), .val (.int p2), .val (.ref w_PROPOSAL_WEIGHTS), .val (.int (0 : Int32)), .val (.ref w_TOP_OFFEROR)] [(.int (1 : Int32))]) _
    exact retN X41 hx (t := .boolean) hret (by simp) (hb hby at_39) hr
  · show Qrm0_2_0 Z w_PROPOSAL_WEIGHTS w_TOP_OFFEROR p1 p2 h0 _ T41.heap _
    exact ⟨rfl, N41⟩
def Qrm43 (Z : State) (w_PROPOSAL_WEIGHTS : Addr) (w_IDENTICAL_TOP_SCORES : Addr) (h0 : Heap) (v : Option Value) (h : Heap) (L : List Loc) : Prop := v = some (.ref w_IDENTICAL_TOP_SCORES) ∧ Fr Z.heap.size L ∧ h = h0
set_option maxRecDepth 65536 in
set_option maxHeartbeats 40000000 in
theorem rm43 (l : Launch) (Z : State) (a0 : Array Value) (hw : ∀ d ∈ tables_1, d.before a0 Z = true) (ws : List Jvm.Cond) (w_PROPOSAL_WEIGHTS : Addr) (w_IDENTICAL_TOP_SCORES : Addr) (h0 : Heap) (Z0 : Ext Z.heap h0) (F_w_PROPOSAL_WEIGHTS_tied : Fld Z Z.heap w_PROPOSAL_WEIGHTS "com/example/zia_tally/ziatally/evaluation/Method" "tied" "Lcom/example/zia_tally/ziatally/evaluation/Outcome;" (.ref w_IDENTICAL_TOP_SCORES)) :
    own_met l y_1 prog_7_method_7_code 2 (some (.object "com/example/zia_tally/ziatally/evaluation/Outcome")) ws ({ frames := 0, cells := 0, slots := 0, locals := 0 } : Room) Z #[(.ref w_PROPOSAL_WEIGHTS), (.int (1 : Int32))] h0 (Qrm43 Z w_PROPOSAL_WEIGHTS w_IDENTICAL_TOP_SCORES h0) := by
  refine own_start (plainFor_of_name pn_1) (fun m => ef_prog_7_method_7_RI m w_PROPOSAL_WEIGHTS (1 : Int32)) ?_
  intro p e s m below meth c s₁ hx hby hml hown hnm X0 hZ e0 hret hlk
  have N0 := Fr.nil Z.heap.size
  obtain ⟨T44, X44, e44, st44⟩ := getF X0 hx hZ hown (host := "") (Or.inl (own_w hw 13 rfl)) Via.refl e0 (F_w_PROPOSAL_WEIGHTS_tied.ext Z0) (g := (mkF m 5 #[.val (.ref w_PROPOSAL_WEIGHTS), .val (.int (1 : Int32))] [(.ref w_PROPOSAL_WEIGHTS)])) rfl rfl (hb hby d_prog_7_method_7_5)
  obtain ⟨fs, hr, hrun, hended, hW, hsame⟩ := X44.leave (v := some (.ref w_IDENTICAL_TOP_SCORES)) (fun h => by rw [hret] at h; cases h) hlk
  refine ⟨_, _, ?_, hrun, hended, _, _, rfl, ?_, ⟨_, rfl⟩, hW, hsame.mono (by decide) (by decide)⟩
  · show own_S p e below s₁ (mkF m 0 #[.val (.ref w_PROPOSAL_WEIGHTS), .val (.int (1 : Int32))] []) _
    refine XS.iloadN X0.here hx rfl (hb hby d_prog_7_method_7_0) rfl ?_
    show own_S p e below s₁ (mkF m 1 #[.val (.ref w_PROPOSAL_WEIGHTS), .val (.int (1 : Int32))] [(.int (1 : Int32))]) _
    refine XS.ifNo X0.here hx rfl (hb hby d_prog_7_method_7_1) rfl ((if0 _ _).trans (feq (by decide : ¬ ((1 : Int32) = (0 : Int32)))).1) ?_
    show own_S p e below s₁ (mkF m 4 #[.val (.ref w_PROPOSAL_WEIGHTS), .val (.int (1 : Int32))] []) _
    refine XS.aloadN X0.here hx rfl (hb hby d_prog_7_method_7_4) rfl rfl ?_
    show own_S p e below s₁ (mkF m 5 #[.val (.ref w_PROPOSAL_WEIGHTS), .val (.int (1 : Int32))] [(.ref w_PROPOSAL_WEIGHTS)]) _
    refine st44 _ ?_
    show own_S p e below T44 (mkF m 8 #[.val (.ref w_PROPOSAL_WEIGHTS), .val (.int (1 : Int32))] [(.ref w_IDENTICAL_TOP_SCORES)]) _
    refine XS.goto X44.here hx rfl (pc0 := 8) (pc' := 15) rfl (hb hby d_prog_7_method_7_8) (by decide) (by decide) ?_
    show own_S p e below T44 (mkF m 15 #[.val (.ref w_PROPOSAL_WEIGHTS), .val (.int (1 : Int32))] [(.ref w_IDENTICAL_TOP_SCORES)]) _
    jvm_step X44.here [X44.here.top, hx, (hb hby d_prog_7_method_7_15), X44.method', hret, Value.isRef, FieldType.isReference]
    first | (intro acts; rw [hr _ acts rfl rfl rfl]) | rw [hr _ _ rfl rfl rfl]
    exact Steps.refl _
  · show Qrm43 Z w_PROPOSAL_WEIGHTS w_IDENTICAL_TOP_SCORES h0 _ T44.heap _
    rw [e44]
    exact ⟨rfl, N0, rfl⟩
def Qrm46 (Z : State) (w_IDENTICAL_TOP_SCORES : Addr) (p1 : Int32) (h0 : Heap) (v : Option Value) (h : Heap) (L : List Loc) : Prop := v = some (.ref w_IDENTICAL_TOP_SCORES) ∧ Fr Z.heap.size L ∧ h = h0
set_option maxRecDepth 65536 in
set_option maxHeartbeats 40000000 in
theorem rm46 (l : Launch) (Z : State) (a0 : Array Value) (hw : ∀ d ∈ tables_1, d.before a0 Z = true) (ws : List Jvm.Cond) (w_IDENTICAL_TOP_SCORES : Addr) (p1 : Int32) (h0 : Heap) (Z0 : Ext Z.heap h0) (S_w_IDENTICAL_TOP_SCORES : Sta Z Z.heap "com/example/zia_tally/ziatally/evaluation/Outcome" "IDENTICAL_TOP_SCORES" "Lcom/example/zia_tally/ziatally/evaluation/Outcome;" (.ref w_IDENTICAL_TOP_SCORES)) (hc5 : ((p1 &&& (2147483647 : Int32)) % (3 : Int32)) = (2 : Int32)) :
    own_met l y_2 method_3_code 3 (some (.object "com/example/zia_tally/ziatally/evaluation/Outcome")) ws ({ frames := 0, cells := 0, slots := 0, locals := 0 } : Room) Z #[(.int p1), (.int (1 : Int32))] h0 (Qrm46 Z w_IDENTICAL_TOP_SCORES p1 h0) := by
  refine own_start (plainFor_of_name pn_0) (fun m => ef_method_3_II m p1 (1 : Int32)) ?_
  intro p e s m below meth c s₁ hx hby hml hown hnm X0 hZ e0 hret hlk
  have N0 := Fr.nil Z.heap.size
  obtain ⟨T47, X47, e47, st47⟩ := getS2 X0 hx hZ hown (host := "") (Or.inl (own_w hw 24 rfl)) Via.refl e0 (S_w_IDENTICAL_TOP_SCORES.ext Z0) (g := (mkF m 27 #[.val (.int p1), .val (.int (1 : Int32)), .val (.int (2 : Int32))] [])) rfl (hb hby d_method_3_27)
  obtain ⟨fs, hr, hrun, hended, hW, hsame⟩ := X47.leave (v := some (.ref w_IDENTICAL_TOP_SCORES)) (fun h => by rw [hret] at h; cases h) hlk
  refine ⟨_, _, ?_, hrun, hended, _, _, rfl, ?_, ⟨_, rfl⟩, hW, hsame.mono (by decide) (by decide)⟩
  · show own_S p e below s₁ (mkF m 0 #[.val (.int p1), .val (.int (1 : Int32)), .unset] []) _
    refine XS.iloadN X0.here hx rfl (hb hby d_method_3_0) rfl ?_
    show own_S p e below s₁ (mkF m 1 #[.val (.int p1), .val (.int (1 : Int32)), .unset] [(.int p1)]) _
    refine X0.ldcInt hx hown (mvT hZ (own_w hw 4 rfl)) (g := (mkF m 1 #[.val (.int p1), .val (.int (1 : Int32)), .unset] [(.int p1)])) rfl (hb hby d_method_3_1) _ ?_
    show own_S p e below s₁ (mkF m 3 #[.val (.int p1), .val (.int (1 : Int32)), .unset] [(.int (2147483647 : Int32)), (.int p1)]) _
    refine XS.iand X0.here hx rfl (hb hby d_method_3_3) rfl ?_
    show own_S p e below s₁ (mkF m 4 #[.val (.int p1), .val (.int (1 : Int32)), .unset] [(.int (p1 &&& (2147483647 : Int32)))]) _
    refine XS.iconst X0.here hx rfl (hb hby d_method_3_4) ?_
    show own_S p e below s₁ (mkF m 5 #[.val (.int p1), .val (.int (1 : Int32)), .unset] [(.int (3 : Int32)), (.int (p1 &&& (2147483647 : Int32)))]) _
    refine iremM X0 hx rfl (hb hby d_method_3_5) rfl (by decide) ?_
    show own_S p e below s₁ (mkF m 6 #[.val (.int p1), .val (.int (1 : Int32)), .unset] [(.int ((p1 &&& (2147483647 : Int32)) % (3 : Int32)))]) _
    rw [hc5]
    show own_S p e below s₁ (mkF m 6 #[.val (.int p1), .val (.int (1 : Int32)), .unset] [(.int (2 : Int32))]) _
    refine XS.istoreN X0.here hx rfl (hb hby d_method_3_6) rfl (l' := #[.val (.int p1), .val (.int (1 : Int32)), .val (.int (2 : Int32))]) rfl ?_
    show own_S p e below s₁ (mkF m 7 #[.val (.int p1), .val (.int (1 : Int32)), .val (.int (2 : Int32))] []) _
    refine XS.iloadN X0.here hx rfl (hb hby d_method_3_7) rfl ?_
    show own_S p e below s₁ (mkF m 8 #[.val (.int p1), .val (.int (1 : Int32)), .val (.int (2 : Int32))] [(.int (2 : Int32))]) _
    refine XS.ifYes X0.here hx rfl (pc0 := 8) (pc' := 23) rfl (hb hby d_method_3_8) rfl ((if0 _ _).trans (feq (by decide : ¬ ((2 : Int32) = (0 : Int32)))).2) (by decide) (by decide) ?_
    show own_S p e below s₁ (mkF m 23 #[.val (.int p1), .val (.int (1 : Int32)), .val (.int (2 : Int32))] []) _
    refine XS.iloadN X0.here hx rfl (hb hby d_method_3_23) rfl ?_
    show own_S p e below s₁ (mkF m 24 #[.val (.int p1), .val (.int (1 : Int32)), .val (.int (2 : Int32))] [(.int (1 : Int32))]) _
    refine XS.ifNo X0.here hx rfl (hb hby d_method_3_24) rfl ((if0 _ _).trans (feq (by decide : ¬ ((1 : Int32) = (0 : Int32)))).1) ?_
    show own_S p e below s₁ (mkF m 27 #[.val (.int p1), .val (.int (1 : Int32)), .val (.int (2 : Int32))] []) _
    refine st47 _ ?_
    show own_S p e below T47 (mkF m 30 #[.val (.int p1), .val (.int (1 : Int32)), .val (.int (2 : Int32))] [(.ref w_IDENTICAL_TOP_SCORES)]) _
    jvm_step X47.here [X47.here.top, hx, (hb hby d_method_3_30), X47.method', hret, Value.isRef, FieldType.isReference]
    first | (intro acts; rw [hr _ acts rfl rfl rfl]) | rw [hr _ _ rfl rfl rfl]
    exact Steps.refl _
  · show Qrm46 Z w_IDENTICAL_TOP_SCORES p1 h0 _ T47.heap _
    rw [e47]
    exact ⟨rfl, N0, rfl⟩
def Qrm0_2_1 (Z : State) (w_PROPOSAL_WEIGHTS : Addr) (w_IDENTICAL_TOP_SCORES : Addr) (p1 : Int32) (p2 : Int32) (h0 : Heap) (v : Option Value) (h : Heap) (L : List Loc) : Prop := v = some (.int 1) ∧ Fr Z.heap.size L
set_option maxRecDepth 65536 in
set_option maxHeartbeats 40000000 in
theorem rm0_2_1 (l : Launch) (Z : State) (a0 : Array Value) (hw : ∀ d ∈ tables_1, d.before a0 Z = true) (ws : List Jvm.Cond) (w_PROPOSAL_WEIGHTS : Addr) (w_IDENTICAL_TOP_SCORES : Addr) (p1 : Int32) (p2 : Int32) (h0 : Heap) (Z0 : Ext Z.heap h0) (S_w_PROPOSAL_WEIGHTS : Sta Z Z.heap "com/example/zia_tally/ziatally/evaluation/Method" "PROPOSAL_WEIGHTS" "Lcom/example/zia_tally/ziatally/evaluation/Method;" (.ref w_PROPOSAL_WEIGHTS)) (E_w_PROPOSAL_WEIGHTS : Exa Z Z.heap w_PROPOSAL_WEIGHTS "com/example/zia_tally/ziatally/evaluation/Method") (F_w_PROPOSAL_WEIGHTS_tied : Fld Z Z.heap w_PROPOSAL_WEIGHTS "com/example/zia_tally/ziatally/evaluation/Method" "tied" "Lcom/example/zia_tally/ziatally/evaluation/Outcome;" (.ref w_IDENTICAL_TOP_SCORES)) (S_w_IDENTICAL_TOP_SCORES : Sta Z Z.heap "com/example/zia_tally/ziatally/evaluation/Outcome" "IDENTICAL_TOP_SCORES" "Lcom/example/zia_tally/ziatally/evaluation/Outcome;" (.ref w_IDENTICAL_TOP_SCORES)) (hc5 : ((p1 &&& (2147483647 : Int32)) % (3 : Int32)) = (2 : Int32)) (hc3 : (p2 &&& (1 : Int32)) = (1 : Int32)) :
    own_met l x code maxLocals ret ws room_1 Z #[(.int p1), (.int p2)] h0 (Qrm0_2_1 Z w_PROPOSAL_WEIGHTS w_IDENTICAL_TOP_SCORES p1 p2 h0) := by
  refine own_start (plainFor_of_name pn_0) (fun m => ef_code_II m p1 p2) ?_
  intro p e s m below meth c s₁ hx hby hml hown hnm X0 hZ e0 hret hlk
  have N0 := Fr.nil Z.heap.size
  obtain ⟨_, T42, Lc42, X42, hQ42, st42⟩ := own_static (y := y_0) X0 hx hZ hown (own_w hw 0 rfl) (own_w hw 1 rfl) (own_w hw 2 rfl) (own_w hw 3 rfl) (by decide) (rm33 l Z a0 hw [] w_PROPOSAL_WEIGHTS p1 h0 Z0 S_w_PROPOSAL_WEIGHTS hc5) (by decide) (by decide) e0 (g := (mkF m 1 #[.val (.int p1), .val (.int p2), .unset, .unset, .unset] [(.int p1)])) rfl (by rw [hml]; rfl) (argsL := [(.int p1)]) (rest := []) (lenOf pd_0 rfl) rfl rfl (W := 0) (by show 2 * 0 + _ ≤ _; exact Nat.le_of_eq rfl) (hb hby at_1) (by decide) (by decide)
  obtain ⟨rfl, N42q, e42⟩ := hQ42
  have N42 := Fr.app N0 N42q
  obtain ⟨_, T45, Lc45, X45, hQ45, st45⟩ := own_virtual (y := y_1) X42 hx hZ hown (own_w hw 8 rfl) (own_w hw 9 rfl) (own_w hw 11 rfl) (own_w hw 10 rfl) (own_w hw 6 rfl) (own_w hw 12 rfl) (by decide) (rm43 l Z a0 hw [] w_PROPOSAL_WEIGHTS w_IDENTICAL_TOP_SCORES h0 Z0 F_w_PROPOSAL_WEIGHTS_tied) (by decide) (by decide) e42 (E_w_PROPOSAL_WEIGHTS.ext Z0) (g := (mkF m 19 #[.val (.int p1), .val (.int p2), .val (.ref w_PROPOSAL_WEIGHTS), .val (.int (1 : Int32)), .unset] [(.int (1 : Int32)), (.ref w_PROPOSAL_WEIGHTS)])) rfl (by rw [hml]; rfl) (argsL := [(.int (1 : Int32))]) (rest := []) (lenOf pd_1 rfl) rfl rfl (W := 0) (by show 2 * 0 + _ ≤ _; exact Nat.le_of_eq rfl) (hb hby at_19) (by decide) (by decide)
  obtain ⟨rfl, N45q, e45⟩ := hQ45
  have N45 := Fr.app N42 N45q
  obtain ⟨_, T48, Lc48, X48, hQ48, st48⟩ := own_static (y := y_2) X45 hx hZ hown (own_w hw 17 rfl) (own_w hw 18 rfl) (own_w hw 2 rfl) (own_w hw 19 rfl) (by decide) (rm46 l Z a0 hw [] w_IDENTICAL_TOP_SCORES p1 h0 Z0 S_w_IDENTICAL_TOP_SCORES hc5) (by decide) (by decide) e45 (g := (mkF m 28 #[.val (.int p1), .val (.int p2), .val (.ref w_PROPOSAL_WEIGHTS), .val (.int (1 : Int32)), .val (.ref w_IDENTICAL_TOP_SCORES)] [(.int (1 : Int32)), (.int p1), (.ref w_IDENTICAL_TOP_SCORES)])) rfl (by rw [hml]; rfl) (argsL := [(.int p1), (.int (1 : Int32))]) (rest := [(.ref w_IDENTICAL_TOP_SCORES)]) (lenOf pd_2 rfl) rfl rfl (W := 1) (by show 2 * 0 + _ ≤ _; exact Nat.le_of_eq rfl) (hb hby at_28) (by decide) (by decide)
  obtain ⟨rfl, N48q, e48⟩ := hQ48
  have N48 := Fr.app N45 N48q
  obtain ⟨fs, hr, hrun, hended, hW, hsame⟩ := X48.leave (v := some (.int (1 : Int32))) (fun h => by rw [hret] at h; cases h) hlk
  refine ⟨_, _, ?_, hrun, hended, _, _, rfl, ?_, ⟨_, rfl⟩, hW, hsame.mono (by decide) (by decide)⟩
  · show own_S p e below s₁ (mkF m 0 #[.val (.int p1), .val (.int p2), .unset, .unset, .unset] []) _
    refine XS.iloadN X0.here hx rfl (hb hby at_0) rfl ?_
    show own_S p e below s₁ (mkF m 1 #[.val (.int p1), .val (.int p2), .unset, .unset, .unset] [(.int p1)]) _
    refine st42 _ ?_
    show own_S p e below T42 (mkF m 4 #[.val (.int p1), .val (.int p2), .unset, .unset, .unset] [(.ref w_PROPOSAL_WEIGHTS)]) _
    refine XS.astoreN X42.here hx rfl (hb hby at_4) rfl rfl (l' := #[.val (.int p1), .val (.int p2), .val (.ref w_PROPOSAL_WEIGHTS), .unset, .unset]) rfl ?_
    show own_S p e below T42 (mkF m 5 #[.val (.int p1), .val (.int p2), .val (.ref w_PROPOSAL_WEIGHTS), .unset, .unset] []) _
    refine XS.iloadN X42.here hx rfl (hb hby at_5) rfl ?_
    show own_S p e below T42 (mkF m 6 #[.val (.int p1), .val (.int p2), .val (.ref w_PROPOSAL_WEIGHTS), .unset, .unset] [(.int p2)]) _
    refine XS.iconst X42.here hx rfl (hb hby at_6) ?_
    show own_S p e below T42 (mkF m 7 #[.val (.int p1), .val (.int p2), .val (.ref w_PROPOSAL_WEIGHTS), .unset, .unset] [(.int (1 : Int32)), (.int p2)]) _
    refine XS.iand X42.here hx rfl (hb hby at_7) rfl ?_
    show own_S p e below T42 (mkF m 8 #[.val (.int p1), .val (.int p2), .val (.ref w_PROPOSAL_WEIGHTS), .unset, .unset] [(.int (p2 &&& (1 : Int32)))]) _
    rw [hc3]
    show own_S p e below T42 (mkF m 8 #[.val (.int p1), .val (.int p2), .val (.ref w_PROPOSAL_WEIGHTS), .unset, .unset] [(.int (1 : Int32))]) _
    refine XS.ifNo X42.here hx rfl (hb hby at_8) rfl ((if0 _ _).trans (feq (by decide : ¬ ((1 : Int32) = (0 : Int32)))).1) ?_
    show own_S p e below T42 (mkF m 11 #[.val (.int p1), .val (.int p2), .val (.ref w_PROPOSAL_WEIGHTS), .unset, .unset] []) _
    refine XS.iconst X42.here hx rfl (hb hby at_11) ?_
    show own_S p e below T42 (mkF m 12 #[.val (.int p1), .val (.int p2), .val (.ref w_PROPOSAL_WEIGHTS), .unset, .unset] [(.int (1 : Int32))]) _
    refine XS.goto X42.here hx rfl (pc0 := 12) (pc' := 16) rfl (hb hby at_12) (by decide) (by decide) ?_
    show own_S p e below T42 (mkF m 16 #[.val (.int p1), .val (.int p2), .val (.ref w_PROPOSAL_WEIGHTS), .unset, .unset] [(.int (1 : Int32))]) _
    refine XS.istoreN X42.here hx rfl (hb hby at_16) rfl (l' := #[.val (.int p1), .val (.int p2), .val (.ref w_PROPOSAL_WEIGHTS), .val (.int (1 : Int32)), .unset]) rfl ?_
    show own_S p e below T42 (mkF m 17 #[.val (.int p1), .val (.int p2), .val (.ref w_PROPOSAL_WEIGHTS), .val (.int (1 : Int32)), .unset] []) _
    refine XS.aloadN X42.here hx rfl (hb hby at_17) rfl rfl ?_
    show own_S p e below T42 (mkF m 18 #[.val (.int p1), .val (.int p2), .val (.ref w_PROPOSAL_WEIGHTS), .val (.int (1 : Int32)), .unset] [(.ref w_PROPOSAL_WEIGHTS)]) _
    refine XS.iloadN X42.here hx rfl (hb hby at_18) rfl ?_
    show own_S p e below T42 (mkF m 19 #[.val (.int p1), .val (.int p2), .val (.ref w_PROPOSAL_WEIGHTS), .val (.int (1 : Int32)), .unset] [(.int (1 : Int32)), (.ref w_PROPOSAL_WEIGHTS)]) _
    refine st45 _ ?_
    show own_S p e below T45 (mkF m 22 #[.val (.int p1), .val (.int p2), .val (.ref w_PROPOSAL_WEIGHTS), .val (.int (1 : Int32)), .unset] [(.ref w_IDENTICAL_TOP_SCORES)]) _
    refine XS.astore X45.here hx rfl (hb hby at_22) rfl rfl (l' := #[.val (.int p1), .val (.int p2), .val (.ref w_PROPOSAL_WEIGHTS), .val (.int (1 : Int32)), .val (.ref w_IDENTICAL_TOP_SCORES)]) rfl ?_
    show own_S p e below T45 (mkF m 24 #[.val (.int p1), .val (.int p2), .val (.ref w_PROPOSAL_WEIGHTS), .val (.int (1 : Int32)), .val (.ref w_IDENTICAL_TOP_SCORES)] []) _
    refine XS.aload X45.here hx rfl (hb hby at_24) rfl rfl ?_
    show own_S p e below T45 (mkF m 26 #[.val (.int p1), .val (.int p2), .val (.ref w_PROPOSAL_WEIGHTS), .val (.int (1 : Int32)), .val (.ref w_IDENTICAL_TOP_SCORES)] [(.ref w_IDENTICAL_TOP_SCORES)]) _
    refine XS.iloadN X45.here hx rfl (hb hby at_26) rfl ?_
    show own_S p e below T45 (mkF m 27 #[.val (.int p1), .val (.int p2), .val (.ref w_PROPOSAL_WEIGHTS), .val (.int (1 : Int32)), .val (.ref w_IDENTICAL_TOP_SCORES)] [(.int p1), (.ref w_IDENTICAL_TOP_SCORES)]) _
    refine XS.iloadN X45.here hx rfl (hb hby at_27) rfl ?_
    show own_S p e below T45 (mkF m 28 #[.val (.int p1), .val (.int p2), .val (.ref w_PROPOSAL_WEIGHTS), .val (.int (1 : Int32)), .val (.ref w_IDENTICAL_TOP_SCORES)] [(.int (1 : Int32)), (.int p1), (.ref w_IDENTICAL_TOP_SCORES)]) _
    refine st48 _ ?_
    show own_S p e below T48 (mkF m 31 #[.val (.int p1), .val (.int p2), .val (.ref w_PROPOSAL_WEIGHTS), .val (.int (1 : Int32)), .val (.ref w_IDENTICAL_TOP_SCORES)] [(.ref w_IDENTICAL_TOP_SCORES), (.ref w_IDENTICAL_TOP_SCORES)]) _
    refine Jvm.RoadKit.acmp (g := (mkF m 31 #[.val (.int p1), .val (.int p2), .val (.ref w_PROPOSAL_WEIGHTS), .val (.int (1 : Int32)), .val (.ref w_IDENTICAL_TOP_SCORES)] [(.ref w_IDENTICAL_TOP_SCORES), (.ref w_IDENTICAL_TOP_SCORES)])) X48 hx rfl rfl rfl (pc0 := 31) (pc' := 34) (same := true) rfl (hb hby at_31) rfl (decide_eq_true rfl) (by decide) (by decide) ?_
    show own_S p e below T48 (mkF m 34 #[.val (.int p1), .val (.int p2), .val (.ref w_PROPOSAL_WEIGHTS), .val (.int (1 : Int32)), .val (.ref w_IDENTICAL_TOP_SCORES)] []) _
    refine XS.iconst X48.here hx rfl (hb hby at_34) ?_
    show own_S p e below T48 (mkF m 35 #[.val (.int p1), .val (.int p2), .val (.ref w_PROPOSAL_WEIGHTS), .val (.int (1 : Int32)), .val (.ref w_IDENTICAL_TOP_SCORES)] [(.int (1 : Int32))]) _
    refine XS.goto X48.here hx rfl (pc0 := 35) (pc' := 39) rfl (hb hby at_35) (by decide) (by decide) ?_
    show own_S p e below T48 (mkF m 39 #[.val (.int p1), .val (.int p2), .val (.ref w_PROPOSAL_WEIGHTS), .val (.int (1 : Int32)), .val (.ref w_IDENTICAL_TOP_SCORES)] [(.int (1 : Int32))]) _
    exact retN X48 hx (t := .boolean) hret (by simp) (hb hby at_39) hr
  · show Qrm0_2_1 Z w_PROPOSAL_WEIGHTS w_IDENTICAL_TOP_SCORES p1 p2 h0 _ T48.heap _
    exact ⟨rfl, N48⟩
set_option maxRecDepth 65536 in
set_option maxHeartbeats 40000000 in
theorem comes_1 {Post : Tables → Env → Array Value → State → Outcome → State → Prop} (hpost : ∀ tb e args s v u, (limb_1_1.after args s (.returned v) u = true ∧ limb_1_2.after args s (.returned v) u = true ∧ True) → FrameEnd s (.returned v) u (Jvm.fieldLocs frame_1_writes args s ++ Jvm.arrayLocs frame_1_arrays args s ++ Jvm.staticLocs frame_1_statics s) 0 0 → Post tb e args s (.returned v) u) :
    ArmFor flags0 classFile x code maxLocals ret World_1 tables_1 room_1 Calls_1 rest_1 Pre_1 Post := by
  intro l hfl _ _ p e ha hc hk s m args below hf hA hF happ hP
  obtain ⟨hcalls, hrest, hpre⟩ := hP
  obtain ⟨-, -, -, hnamed, -, -, -, hat⟩ := (Spec.applies_iff hf).mp happ
  obtain ⟨hg, hn⟩ := and_e (Cond.before_iff.mp (show (Jvm.Cond.and given_1 narrow_1).before args s = true from hpre))
  obtain ⟨hcount, hG0⟩ := and_e hg
  obtain ⟨hA0, hG1⟩ := and_e hG0
  have hA1 := hG1
  obtain ⟨v0, v1, rfl⟩ : ∃ v0 v1 : Value, args = #[v0, v1] := by
    have hs : args.size = 2 := by simpa [Cond.value, given_1] using hcount
    obtain ⟨L⟩ := args
    match L, hs with
    | [v0, v1], _ => exact ⟨v0, v1, rfl⟩
  have hw := fun d (hd : d ∈ tables_1) => atoms_spec (ws := Jvm.Cond.code x code maxLocals ret :: tables_1) hat d (List.mem_cons_of_mem _ hd)
  obtain ⟨p1, ei0⟩ := is_v hA0
  obtain rfl : v0 = (.int p1) := Option.some.inj ei0
  obtain ⟨p2, ei1⟩ := is_v hA1
  obtain rfl : v1 = (.int p2) := Option.some.inj ei1
  obtain ⟨hN0, hR0⟩ := and_e hn
  obtain ⟨hN1, hR1⟩ := and_e hR0
  obtain ⟨hN2, hR2⟩ := and_e hR1
  obtain ⟨hN3, hR3⟩ := and_e hR2
  obtain ⟨hN4, hR4⟩ := and_e hR3
  obtain ⟨hN5, hR5⟩ := and_e hR4
  obtain ⟨hN6, hR6⟩ := and_e hR5
  obtain ⟨hN7, hR7⟩ := and_e hR6
  obtain ⟨hN8, hR8⟩ := and_e hR7
  obtain ⟨hN9, hR9⟩ := and_e hR8
  obtain ⟨hN10, hR10⟩ := and_e hR9
  obtain ⟨hN11, hR11⟩ := and_e hR10
  have hN12 := hR11
  obtain ⟨w_BID, ev_w_BID⟩ := exa_v hN0
  have E_w_BID : Exa s s.heap w_BID "com/example/zia_tally/ziatally/evaluation/Method" := Exa.start ev_w_BID hN0
  have S_w_BID : Sta s s.heap "com/example/zia_tally/ziatally/evaluation/Method" "BID" "Lcom/example/zia_tally/ziatally/evaluation/Method;" (.ref w_BID) := Sta.start ev_w_BID (Or.inr ⟨(own_w hw 6 rfl), (own_w hw 7 rfl)⟩)
  obtain ⟨w_IDENTICAL_LOW_BIDS, ev_w_IDENTICAL_LOW_BIDS⟩ := exa_v hN1
  have E_w_IDENTICAL_LOW_BIDS : Exa s s.heap w_IDENTICAL_LOW_BIDS "com/example/zia_tally/ziatally/evaluation/Outcome" := Exa.start ev_w_IDENTICAL_LOW_BIDS hN1
  have S_w_IDENTICAL_LOW_BIDS : Sta s s.heap "com/example/zia_tally/ziatally/evaluation/Outcome" "IDENTICAL_LOW_BIDS" "Lcom/example/zia_tally/ziatally/evaluation/Outcome;" (.ref w_IDENTICAL_LOW_BIDS) := Sta.start ev_w_IDENTICAL_LOW_BIDS (Or.inr ⟨(own_w hw 15 rfl), (own_w hw 16 rfl)⟩)
  obtain ⟨w_PROPOSAL_WEIGHTS, ev_w_PROPOSAL_WEIGHTS⟩ := exa_v hN3
  have E_w_PROPOSAL_WEIGHTS : Exa s s.heap w_PROPOSAL_WEIGHTS "com/example/zia_tally/ziatally/evaluation/Method" := Exa.start ev_w_PROPOSAL_WEIGHTS hN3
  have S_w_PROPOSAL_WEIGHTS : Sta s s.heap "com/example/zia_tally/ziatally/evaluation/Method" "PROPOSAL_WEIGHTS" "Lcom/example/zia_tally/ziatally/evaluation/Method;" (.ref w_PROPOSAL_WEIGHTS) := Sta.start ev_w_PROPOSAL_WEIGHTS (Or.inr ⟨(own_w hw 6 rfl), (own_w hw 22 rfl)⟩)
  obtain ⟨w_IDENTICAL_TOP_SCORES, ev_w_IDENTICAL_TOP_SCORES⟩ := exa_v hN4
  have E_w_IDENTICAL_TOP_SCORES : Exa s s.heap w_IDENTICAL_TOP_SCORES "com/example/zia_tally/ziatally/evaluation/Outcome" := Exa.start ev_w_IDENTICAL_TOP_SCORES hN4
  have S_w_IDENTICAL_TOP_SCORES : Sta s s.heap "com/example/zia_tally/ziatally/evaluation/Outcome" "IDENTICAL_TOP_SCORES" "Lcom/example/zia_tally/ziatally/evaluation/Outcome;" (.ref w_IDENTICAL_TOP_SCORES) := Sta.start ev_w_IDENTICAL_TOP_SCORES (Or.inr ⟨(own_w hw 15 rfl), (own_w hw 23 rfl)⟩)
  obtain ⟨w_TOP_OFFEROR, ev_w_TOP_OFFEROR⟩ := exa_v hN6
  have E_w_TOP_OFFEROR : Exa s s.heap w_TOP_OFFEROR "com/example/zia_tally/ziatally/evaluation/Outcome" := Exa.start ev_w_TOP_OFFEROR hN6
  have S_w_TOP_OFFEROR : Sta s s.heap "com/example/zia_tally/ziatally/evaluation/Outcome" "TOP_OFFEROR" "Lcom/example/zia_tally/ziatally/evaluation/Outcome;" (.ref w_TOP_OFFEROR) := Sta.start ev_w_TOP_OFFEROR (Or.inr ⟨(own_w hw 15 rfl), (own_w hw 27 rfl)⟩)
  obtain ⟨w_PROPOSAL_POINTS, ev_w_PROPOSAL_POINTS⟩ := exa_v hN8
  have E_w_PROPOSAL_POINTS : Exa s s.heap w_PROPOSAL_POINTS "com/example/zia_tally/ziatally/evaluation/Method" := Exa.start ev_w_PROPOSAL_POINTS hN8
  have S_w_PROPOSAL_POINTS : Sta s s.heap "com/example/zia_tally/ziatally/evaluation/Method" "PROPOSAL_POINTS" "Lcom/example/zia_tally/ziatally/evaluation/Method;" (.ref w_PROPOSAL_POINTS) := Sta.start ev_w_PROPOSAL_POINTS (Or.inr ⟨(own_w hw 6 rfl), (own_w hw 30 rfl)⟩)
  obtain ⟨w_LOW_BIDDER, ev_w_LOW_BIDDER⟩ := exa_v hN11
  have E_w_LOW_BIDDER : Exa s s.heap w_LOW_BIDDER "com/example/zia_tally/ziatally/evaluation/Outcome" := Exa.start ev_w_LOW_BIDDER hN11
  have S_w_LOW_BIDDER : Sta s s.heap "com/example/zia_tally/ziatally/evaluation/Outcome" "LOW_BIDDER" "Lcom/example/zia_tally/ziatally/evaluation/Outcome;" (.ref w_LOW_BIDDER) := Sta.start ev_w_LOW_BIDDER (Or.inr ⟨(own_w hw 15 rfl), (own_w hw 31 rfl)⟩)
  have F_w_BID_tied : Fld s s.heap w_BID "com/example/zia_tally/ziatally/evaluation/Method" "tied" "Lcom/example/zia_tally/ziatally/evaluation/Outcome;" (.ref w_IDENTICAL_LOW_BIDS) := Fld.start ((fld_at ev_w_BID).symm.trans (own_eqR hN2 ev_w_IDENTICAL_LOW_BIDS))
  have F_w_PROPOSAL_WEIGHTS_tied : Fld s s.heap w_PROPOSAL_WEIGHTS "com/example/zia_tally/ziatally/evaluation/Method" "tied" "Lcom/example/zia_tally/ziatally/evaluation/Outcome;" (.ref w_IDENTICAL_TOP_SCORES) := Fld.start ((fld_at ev_w_PROPOSAL_WEIGHTS).symm.trans (own_eqR hN5 ev_w_IDENTICAL_TOP_SCORES))
  have F_w_PROPOSAL_WEIGHTS_single : Fld s s.heap w_PROPOSAL_WEIGHTS "com/example/zia_tally/ziatally/evaluation/Method" "single" "Lcom/example/zia_tally/ziatally/evaluation/Outcome;" (.ref w_TOP_OFFEROR) := Fld.start ((fld_at ev_w_PROPOSAL_WEIGHTS).symm.trans (own_eqR hN7 ev_w_TOP_OFFEROR))
  have F_w_PROPOSAL_POINTS_single : Fld s s.heap w_PROPOSAL_POINTS "com/example/zia_tally/ziatally/evaluation/Method" "single" "Lcom/example/zia_tally/ziatally/evaluation/Outcome;" (.ref w_TOP_OFFEROR) := Fld.start ((fld_at ev_w_PROPOSAL_POINTS).symm.trans (own_eqR hN9 ev_w_TOP_OFFEROR))
  have F_w_PROPOSAL_POINTS_tied : Fld s s.heap w_PROPOSAL_POINTS "com/example/zia_tally/ziatally/evaluation/Method" "tied" "Lcom/example/zia_tally/ziatally/evaluation/Outcome;" (.ref w_IDENTICAL_TOP_SCORES) := Fld.start ((fld_at ev_w_PROPOSAL_POINTS).symm.trans (own_eqR hN10 ev_w_IDENTICAL_TOP_SCORES))
  have F_w_BID_single : Fld s s.heap w_BID "com/example/zia_tally/ziatally/evaluation/Method" "single" "Lcom/example/zia_tally/ziatally/evaluation/Outcome;" (.ref w_LOW_BIDDER) := Fld.start ((fld_at ev_w_BID).symm.trans (own_eqR hN12 ev_w_LOW_BIDDER))
  have hX0 : Ext s.heap s.heap := ⟨Nat.le_refl _, fun _ _ q => q⟩
  have key : MetFree l x (head1 (Jvm.Cond.code x code maxLocals ret :: tables_1) room_1) (fun a U => a = #[(.int p1), (.int p2)] ∧ s.Warmed39 U.vm ∧ U.heap = s.heap) (fun _ _ _ _ _ => True) (fun _ U o U' => ∃ v L, o = .returned v ∧ (v = some (.int 1) ∧ Fr s.heap.size L) ∧ FrameEnd U o U' L room_1.cells room_1.slots) := by
    rcases own_split p1 with hq | hq | hq
    · rcases own_split2 p2 with hr | hr
      · exact rm0_0_0 l s _ hw tables_1 w_BID w_LOW_BIDDER p1 p2 s.heap hX0 S_w_BID E_w_BID F_w_BID_single S_w_LOW_BIDDER hq hr
      · exact rm0_0_1 l s _ hw tables_1 w_BID w_IDENTICAL_LOW_BIDS p1 p2 s.heap hX0 S_w_BID E_w_BID F_w_BID_tied S_w_IDENTICAL_LOW_BIDS hq hr
    · rcases own_split2 p2 with hr | hr
      · exact rm0_1_0 l s _ hw tables_1 w_TOP_OFFEROR w_PROPOSAL_POINTS p1 p2 s.heap hX0 S_w_PROPOSAL_POINTS E_w_PROPOSAL_POINTS F_w_PROPOSAL_POINTS_single S_w_TOP_OFFEROR hq hr
      · exact rm0_1_1 l s _ hw tables_1 w_IDENTICAL_TOP_SCORES w_PROPOSAL_POINTS p1 p2 s.heap hX0 S_w_PROPOSAL_POINTS E_w_PROPOSAL_POINTS F_w_PROPOSAL_POINTS_tied S_w_IDENTICAL_TOP_SCORES hq hr
    · rcases own_split2 p2 with hr | hr
      · exact rm0_2_0 l s _ hw tables_1 w_PROPOSAL_WEIGHTS w_TOP_OFFEROR p1 p2 s.heap hX0 S_w_PROPOSAL_WEIGHTS E_w_PROPOSAL_WEIGHTS F_w_PROPOSAL_WEIGHTS_single S_w_TOP_OFFEROR hq hr
      · exact rm0_2_1 l s _ hw tables_1 w_PROPOSAL_WEIGHTS w_IDENTICAL_TOP_SCORES p1 p2 s.heap hX0 S_w_PROPOSAL_WEIGHTS E_w_PROPOSAL_WEIGHTS F_w_PROPOSAL_WEIGHTS_tied S_w_IDENTICAL_TOP_SCORES hq hr
  obtain ⟨n, o, h1, h2, h3, _, L, rfl, ⟨rfl, N⟩, hq⟩ := key p e ha hc hk s m _ below hf ((Spec.applies_iff_loose hf).mp happ).1 ⟨rfl, State.Warmed39.refl s, rfl⟩ trivial
  refine ⟨n, _, h1, h2, h3, hpost _ _ _ _ _ _ ⟨Cond.after_iff.mpr rfl, Cond.after_iff.mpr (eq_i res_at (Term.int_eval (1)) rfl), trivial⟩ ⟨hq.1, hq.2.1, (hq.2.2.sift fun y hy => Or.inr (N y hy)).mono (by decide) (by decide)⟩⟩
theorem main_1_1 : Claimed_1_1 := comes_1 fun _ _ _ _ _ _ h hF => ⟨h.1, hF⟩
theorem main_1_2 : Claimed_1_2 := comes_1 fun _ _ _ _ _ _ h hF => ⟨h.2.1, hF⟩
end Jvm.Pilot.@@N@@
namespace Jvm.Pilot.@@N@@
open Jvm Jvm.ClassFile Sem Op Lib Jvm.Free Jvm.Stand Jvm.Pilot.@@N@@.Jvm.D
/-! MADE BY PROGRAM (witnessworld.py) out of the Statement's table words and the real class files: 13 classes; the members and pool entries that the words name. The judged class is class 1, her method 3. -/
namespace start1
open Jvm.ClassFile
def u (s : String) : CpInfo := .utf8 (stringToUtf16 s)
/-- a pool by its gaps: so many unusable entries, then the entry; so many at the end -/
def gap : Nat → List CpInfo → List CpInfo
  | 0, r => r
  | n + 1, r => .unusable :: gap n r
def poolList (es : List (Nat × CpInfo)) (last : Nat) : List CpInfo := es.foldr (fun e r => gap e.1 (e.2 :: r)) (gap last [])
def pool (es : List (Nat × CpInfo)) (last : Nat) : Array CpInfo := ⟨poolList es last⟩
def fileOf (pool : Array CpInfo) (this : Nat) (attrs : Array Attribute := #[]) (ms : Array MethodInfo := #[]) (fl : Nat := 33) (sup : Nat := 0) (ifs : Array Nat := #[]) (fds : Array FieldInfo := #[]) : ClassFile where
  minorVersion := 0
  majorVersion := 65
  constantPool := pool
  accessFlags := fl
  thisClass := this
  superClass := sup
  interfaces := ifs
  fields := fds
  methods := ms
  attributes := attrs
def plain (name : String) (sup : Option ClassId) : Class where
  name := name
  kind := .ordinary
  loader := none
  accessFlags := 33
  super := sup
  interfaces := #[]
  cf := none
  fields := #[]
  methods := #[]
  instanceTypes := #[]
  staticTypes := #[]
  resolved := #[]
  callSites := []
  init := .initialized
  statics := none
  mirror := none

def pool0 : Array CpInfo := pool [(5, u "<init>"), (0, u "()V"), (1, .class_ 10), (1, u "java/lang/Object")] 113

def k0m0 : Method := { name := "<init>", desc := "()V", sig := { parameters := [], returnType := none }, accessFlags := 1, code := none }
/-- java/lang/Object -/
def k0 : Class := { plain "java/lang/Object" none with
  accessFlags := 33
  interfaces := #[]
  cf := some (fileOf pool0 8 #[] #[{ accessFlags := 1, nameIndex := 5, descriptorIndex := 6, attributes := #[] }] 33 0 #[] #[])
  fields := #[]
  methods := #[k0m0]
  instanceTypes := #[]
  staticTypes := #[]
  resolved := Array.replicate 124 none
  statics := none }

def pool1 : Array CpInfo := pool [(2, .class_ 4), (1, u "java/lang/Object"), (0, u "<init>"), (0, u "()V"), (0, .integer 2147483647), (0, .fieldref 9 10), (0, .class_ 11), (0, .nameAndType 12 13), (0, u "com/example/zia_tally/ziatally/evaluation/Method"), (0, u "BID"), (0, u "Lcom/example/zia_tally/ziatally/evaluation/Method;"), (0, .fieldref 9 15), (0, .nameAndType 16 13), (0, u "PROPOSAL_POINTS"), (0, .fieldref 9 18), (0, .nameAndType 19 13), (0, u "PROPOSAL_WEIGHTS"), (0, .fieldref 21 22), (0, .class_ 23), (0, .nameAndType 24 25), (0, u "com/example/zia_tally/ziatally/evaluation/Outcome"), (0, u "IDENTICAL_LOW_BIDS"), (0, u "Lcom/example/zia_tally/ziatally/evaluation/Outcome;"), (0, .fieldref 21 27), (0, .nameAndType 28 25), (0, u "LOW_BIDDER"), (0, .fieldref 21 30), (0, .nameAndType 31 25), (0, u "IDENTICAL_TOP_SCORES"), (0, .fieldref 21 33), (0, .nameAndType 34 25), (0, u "TOP_OFFEROR"), (0, .methodref 36 37), (0, .class_ 38), (0, .nameAndType 39 40), (0, u "com/example/zia_tally/ziatally/evaluation/MethodOutcomePinLaw"), (0, u "pick"), (0, u "(I)Lcom/example/zia_tally/ziatally/evaluation/Method;"), (0, .methodref 9 42), (0, .nameAndType 43 44), (0, u "outcome"), (0, u "(Z)Lcom/example/zia_tally/ziatally/evaluation/Outcome;"), (0, .methodref 36 46), (0, .nameAndType 47 48), (0, u "expected"), (0, u "(IZ)Lcom/example/zia_tally/ziatally/evaluation/Outcome;"), (3, u "law"), (0, u "(II)Z")] 2

def k1m0 : Method := { name := "<init>", desc := "()V", sig := { parameters := [], returnType := none }, accessFlags := 1, code := none }
def k1c1 : Code := { maxStack := 2, maxLocals := 2, code := method_2_code, exceptionTable := #[], attributes := #[] }
def k1m1 : Method := { name := "pick", desc := "(I)Lcom/example/zia_tally/ziatally/evaluation/Method;", sig := { parameters := [.int], returnType := some (.object "com/example/zia_tally/ziatally/evaluation/Method") }, accessFlags := 10, code := some k1c1 }
def k1c2 : Code := { maxStack := 2, maxLocals := 3, code := method_3_code, exceptionTable := #[], attributes := #[] }
def k1m2 : Method := { name := "expected", desc := "(IZ)Lcom/example/zia_tally/ziatally/evaluation/Outcome;", sig := { parameters := [.int, .boolean], returnType := some (.object "com/example/zia_tally/ziatally/evaluation/Outcome") }, accessFlags := 10, code := some k1c2 }
def k1c3 : Code := { maxStack := 3, maxLocals := 5, code := code, exceptionTable := #[], attributes := #[] }
def k1m3 : Method := { name := "law", desc := "(II)Z", sig := { parameters := [.int, .int], returnType := some .boolean }, accessFlags := 9, code := some k1c3 }
/-- com/example/zia_tally/ziatally/evaluation/MethodOutcomePinLaw -/
def k1 : Class := { plain "com/example/zia_tally/ziatally/evaluation/MethodOutcomePinLaw" (some 0) with
  accessFlags := 49
  interfaces := #[]
  cf := some (fileOf pool1 36 #[] #[{ accessFlags := 1, nameIndex := 5, descriptorIndex := 6, attributes := #[] }, { accessFlags := 10, nameIndex := 39, descriptorIndex := 40, attributes := #[] }, { accessFlags := 10, nameIndex := 47, descriptorIndex := 48, attributes := #[] }, { accessFlags := 9, nameIndex := 52, descriptorIndex := 53, attributes := #[] }] 49 2 #[] #[])
  fields := #[]
  methods := #[k1m0, k1m1, k1m2, k1m3]
  instanceTypes := #[]
  staticTypes := #[]
  resolved := Array.replicate 56 none
  statics := none }

def pool2 : Array CpInfo := pool [(1, .class_ 2), (0, u "java/lang/constant/Constable"), (0, .class_ 4), (0, u "java/lang/Object")] 6

/-- java/lang/constant/Constable -/
def k2 : Class := { plain "java/lang/constant/Constable" (some 0) with
  accessFlags := 1537
  interfaces := #[]
  cf := some (fileOf pool2 1 #[] #[] 1537 3 #[] #[])
  fields := #[]
  methods := #[]
  instanceTypes := #[]
  staticTypes := #[]
  resolved := Array.replicate 11 none
  statics := none }

def pool3 : Array CpInfo := pool [(1, .class_ 2), (0, u "java/lang/Comparable"), (0, .class_ 4), (0, u "java/lang/Object")] 7

/-- java/lang/Comparable -/
def k3 : Class := { plain "java/lang/Comparable" (some 0) with
  accessFlags := 1537
  interfaces := #[]
  cf := some (fileOf pool3 1 #[] #[] 1537 3 #[] #[])
  fields := #[]
  methods := #[]
  instanceTypes := #[]
  staticTypes := #[]
  resolved := Array.replicate 12 none
  statics := none }

def pool4 : Array CpInfo := pool [(1, .class_ 2), (0, u "java/io/Serializable"), (0, .class_ 4), (0, u "java/lang/Object")] 2

/-- java/io/Serializable -/
def k4 : Class := { plain "java/io/Serializable" (some 0) with
  accessFlags := 1537
  interfaces := #[]
  cf := some (fileOf pool4 1 #[] #[] 1537 3 #[] #[])
  fields := #[]
  methods := #[]
  instanceTypes := #[]
  staticTypes := #[]
  resolved := Array.replicate 7 none
  statics := none }

def pool5 : Array CpInfo := pool [(2, .class_ 4), (1, u "java/lang/Enum"), (0, u "name"), (0, u "Ljava/lang/String;"), (2, u "ordinal"), (0, u "I"), (1, .class_ 14), (1, u "java/lang/Object"), (4, u "hash"), (86, .class_ 108), (1, u "java/lang/Enum$EnumDesc"), (2, .class_ 112), (0, u "java/lang/constant/Constable"), (0, .class_ 114), (0, u "java/lang/Comparable"), (0, .class_ 116), (0, u "java/io/Serializable")] 87

/-- java/lang/Enum -/
def k5 : Class := { plain "java/lang/Enum" (some 0) with
  accessFlags := 1057
  interfaces := #[2, 3, 4]
  cf := some (fileOf pool5 2 #[.nestMembers #[106]] #[] 1057 12 #[111, 113, 115] #[{ accessFlags := 18, nameIndex := 5, descriptorIndex := 6, attributes := #[] }, { accessFlags := 18, nameIndex := 9, descriptorIndex := 10, attributes := #[] }, { accessFlags := 2, nameIndex := 19, descriptorIndex := 10, attributes := #[] }])
  fields := #[{ name := "name", type := (.object "java/lang/String"), accessFlags := 18, slot := 0, constantValue := 0 }, { name := "ordinal", type := .int, accessFlags := 18, slot := 1, constantValue := 0 }, { name := "hash", type := .int, accessFlags := 2, slot := 2, constantValue := 0 }]
  methods := #[]
  instanceTypes := #[(.object "java/lang/String"), .int, .int]
  staticTypes := #[]
  resolved := Array.replicate 204 none
  statics := none }

def pool6 : Array CpInfo := pool [(1, .class_ 2), (0, u "com/example/zia_tally/ziatally/evaluation/Method"), (2, u "BID"), (0, u "Lcom/example/zia_tally/ziatally/evaluation/Method;"), (2, u "PROPOSAL_POINTS"), (2, u "PROPOSAL_WEIGHTS"), (2, u "$VALUES"), (0, u "[Lcom/example/zia_tally/ziatally/evaluation/Method;"), (6, .class_ 25), (1, u "java/lang/Enum"), (8, u "code"), (0, u "Ljava/lang/String;"), (2, u "ranking"), (0, u "Ljava/util/Comparator;"), (0, .fieldref 1 41), (0, .nameAndType 42 43), (0, u "single"), (0, u "Lcom/example/zia_tally/ziatally/evaluation/Outcome;"), (0, .fieldref 1 45), (0, .nameAndType 46 43), (0, u "tied"), (52, u "outcome"), (0, u "(Z)Lcom/example/zia_tally/ziatally/evaluation/Outcome;")] 5

def k6c0 : Code := { maxStack := 1, maxLocals := 2, code := prog_7_method_7_code, exceptionTable := #[], attributes := #[] }
def k6m0 : Method := { name := "outcome", desc := "(Z)Lcom/example/zia_tally/ziatally/evaluation/Outcome;", sig := { parameters := [.boolean], returnType := some (.object "com/example/zia_tally/ziatally/evaluation/Outcome") }, accessFlags := 0, code := some k6c0 }
/-- com/example/zia_tally/ziatally/evaluation/Method -/
def k6 : Class := { plain "com/example/zia_tally/ziatally/evaluation/Method" (some 5) with
  accessFlags := 16433
  interfaces := #[]
  cf := some (fileOf pool6 1 #[] #[{ accessFlags := 0, nameIndex := 99, descriptorIndex := 100, attributes := #[] }] 16433 23 #[] #[{ accessFlags := 16409, nameIndex := 5, descriptorIndex := 6, attributes := #[] }, { accessFlags := 16409, nameIndex := 9, descriptorIndex := 6, attributes := #[] }, { accessFlags := 16409, nameIndex := 12, descriptorIndex := 6, attributes := #[] }, { accessFlags := 18, nameIndex := 34, descriptorIndex := 35, attributes := #[] }, { accessFlags := 18, nameIndex := 38, descriptorIndex := 39, attributes := #[] }, { accessFlags := 18, nameIndex := 42, descriptorIndex := 43, attributes := #[] }, { accessFlags := 18, nameIndex := 46, descriptorIndex := 43, attributes := #[] }, { accessFlags := 4122, nameIndex := 15, descriptorIndex := 16, attributes := #[] }])
  fields := #[{ name := "BID", type := (.object "com/example/zia_tally/ziatally/evaluation/Method"), accessFlags := 16409, slot := 0, constantValue := 0 }, { name := "PROPOSAL_POINTS", type := (.object "com/example/zia_tally/ziatally/evaluation/Method"), accessFlags := 16409, slot := 1, constantValue := 0 }, { name := "PROPOSAL_WEIGHTS", type := (.object "com/example/zia_tally/ziatally/evaluation/Method"), accessFlags := 16409, slot := 2, constantValue := 0 }, { name := "code", type := (.object "java/lang/String"), accessFlags := 18, slot := 3, constantValue := 0 }, { name := "ranking", type := (.object "java/util/Comparator"), accessFlags := 18, slot := 4, constantValue := 0 }, { name := "single", type := (.object "com/example/zia_tally/ziatally/evaluation/Outcome"), accessFlags := 18, slot := 5, constantValue := 0 }, { name := "tied", type := (.object "com/example/zia_tally/ziatally/evaluation/Outcome"), accessFlags := 18, slot := 6, constantValue := 0 }, { name := "$VALUES", type := (.array (.object "com/example/zia_tally/ziatally/evaluation/Method")), accessFlags := 4122, slot := 3, constantValue := 0 }]
  methods := #[k6m0]
  instanceTypes := #[(.object "java/lang/String"), .int, .int, (.object "java/lang/String"), (.object "java/util/Comparator"), (.object "com/example/zia_tally/ziatally/evaluation/Outcome"), (.object "com/example/zia_tally/ziatally/evaluation/Outcome")]
  staticTypes := #[(.object "com/example/zia_tally/ziatally/evaluation/Method"), (.object "com/example/zia_tally/ziatally/evaluation/Method"), (.object "com/example/zia_tally/ziatally/evaluation/Method"), (.array (.object "com/example/zia_tally/ziatally/evaluation/Method"))]
  resolved := Array.replicate 106 none
  statics := some 0 }

def pool7 : Array CpInfo := pool [(1, .class_ 2), (0, u "com/example/zia_tally/ziatally/evaluation/Outcome"), (2, u "LOW_BIDDER"), (0, u "Lcom/example/zia_tally/ziatally/evaluation/Outcome;"), (2, u "IDENTICAL_LOW_BIDS"), (2, u "MULTIPLE_AWARD"), (2, u "REJECTED_ALL"), (2, u "TOP_OFFEROR"), (2, u "IDENTICAL_TOP_SCORES"), (2, u "NO_ELIGIBLE_OFFER"), (2, u "$VALUES"), (0, u "[Lcom/example/zia_tally/ziatally/evaluation/Outcome;"), (6, .class_ 37), (1, u "java/lang/Enum"), (8, u "code"), (0, u "Ljava/lang/String;")] 41

/-- com/example/zia_tally/ziatally/evaluation/Outcome -/
def k7 : Class := { plain "com/example/zia_tally/ziatally/evaluation/Outcome" (some 5) with
  accessFlags := 16433
  interfaces := #[]
  cf := some (fileOf pool7 1 #[] #[] 16433 35 #[] #[{ accessFlags := 16409, nameIndex := 5, descriptorIndex := 6, attributes := #[] }, { accessFlags := 16409, nameIndex := 9, descriptorIndex := 6, attributes := #[] }, { accessFlags := 16409, nameIndex := 12, descriptorIndex := 6, attributes := #[] }, { accessFlags := 16409, nameIndex := 15, descriptorIndex := 6, attributes := #[] }, { accessFlags := 16409, nameIndex := 18, descriptorIndex := 6, attributes := #[] }, { accessFlags := 16409, nameIndex := 21, descriptorIndex := 6, attributes := #[] }, { accessFlags := 16409, nameIndex := 24, descriptorIndex := 6, attributes := #[] }, { accessFlags := 18, nameIndex := 46, descriptorIndex := 47, attributes := #[] }, { accessFlags := 4122, nameIndex := 27, descriptorIndex := 28, attributes := #[] }])
  fields := #[{ name := "LOW_BIDDER", type := (.object "com/example/zia_tally/ziatally/evaluation/Outcome"), accessFlags := 16409, slot := 0, constantValue := 0 }, { name := "IDENTICAL_LOW_BIDS", type := (.object "com/example/zia_tally/ziatally/evaluation/Outcome"), accessFlags := 16409, slot := 1, constantValue := 0 }, { name := "MULTIPLE_AWARD", type := (.object "com/example/zia_tally/ziatally/evaluation/Outcome"), accessFlags := 16409, slot := 2, constantValue := 0 }, { name := "REJECTED_ALL", type := (.object "com/example/zia_tally/ziatally/evaluation/Outcome"), accessFlags := 16409, slot := 3, constantValue := 0 }, { name := "TOP_OFFEROR", type := (.object "com/example/zia_tally/ziatally/evaluation/Outcome"), accessFlags := 16409, slot := 4, constantValue := 0 }, { name := "IDENTICAL_TOP_SCORES", type := (.object "com/example/zia_tally/ziatally/evaluation/Outcome"), accessFlags := 16409, slot := 5, constantValue := 0 }, { name := "NO_ELIGIBLE_OFFER", type := (.object "com/example/zia_tally/ziatally/evaluation/Outcome"), accessFlags := 16409, slot := 6, constantValue := 0 }, { name := "code", type := (.object "java/lang/String"), accessFlags := 18, slot := 3, constantValue := 0 }, { name := "$VALUES", type := (.array (.object "com/example/zia_tally/ziatally/evaluation/Outcome")), accessFlags := 4122, slot := 7, constantValue := 0 }]
  methods := #[]
  instanceTypes := #[(.object "java/lang/String"), .int, .int, (.object "java/lang/String")]
  staticTypes := #[(.object "com/example/zia_tally/ziatally/evaluation/Outcome"), (.object "com/example/zia_tally/ziatally/evaluation/Outcome"), (.object "com/example/zia_tally/ziatally/evaluation/Outcome"), (.object "com/example/zia_tally/ziatally/evaluation/Outcome"), (.object "com/example/zia_tally/ziatally/evaluation/Outcome"), (.object "com/example/zia_tally/ziatally/evaluation/Outcome"), (.object "com/example/zia_tally/ziatally/evaluation/Outcome"), (.array (.object "com/example/zia_tally/ziatally/evaluation/Outcome"))]
  resolved := Array.replicate 89 none
  statics := some 1 }

def pool8 : Array CpInfo := pool [(1, u "java/lang/Cloneable"), (0, .class_ 1), (0, u "java/lang/Object"), (0, .class_ 3)] 3

/-- java/lang/Cloneable -/
def k8 : Class := { plain "java/lang/Cloneable" (some 0) with
  accessFlags := 1537
  interfaces := #[]
  cf := some (fileOf pool8 2 #[] #[] 1537 4 #[] #[])
  fields := #[]
  methods := #[]
  instanceTypes := #[]
  staticTypes := #[]
  resolved := Array.replicate 8 none
  statics := none }

/-- the primitive byte -/
def k9 : Class := { plain "byte" none with kind := .primitive 'B', accessFlags := 0x411 }
/-- [B -/
def k10 : Class := { plain "[B" (some 0) with kind := .array 9 .byte, interfaces := #[8, 4], accessFlags := 1041 }

/-- the primitive int -/
def k11 : Class := { plain "int" none with kind := .primitive 'I', accessFlags := 0x411 }
/-- [I -/
def k12 : Class := { plain "[I" (some 0) with kind := .array 11 .int, interfaces := #[8, 4], accessFlags := 1041 }

def heap : Heap := #[{ cls := 6, slots := #[.ref 2, .ref 7, .ref 4, .null], vm := .statics 6 },
  { cls := 7, slots := #[.ref 8, .ref 3, .null, .null, .ref 6, .ref 5, .null, .null], vm := .statics 7 },
  { cls := 6, slots := #[.null, .int 0, .int 0, .null, .null, .ref 8, .ref 3], vm := .none },
  { cls := 7, slots := #[.null, .int 0, .int 0, .null], vm := .none },
  { cls := 6, slots := #[.null, .int 0, .int 0, .null, .null, .ref 6, .ref 5], vm := .none },
  { cls := 7, slots := #[.null, .int 0, .int 0, .null], vm := .none },
  { cls := 7, slots := #[.null, .int 0, .int 0, .null], vm := .none },
  { cls := 6, slots := #[.null, .int 0, .int 0, .null, .null, .ref 6, .ref 5], vm := .none },
  { cls := 7, slots := #[.null, .int 0, .int 0, .null], vm := .none }]
def classes : Array Class := #[k0, k1, k2, k3, k4, k5, k6, k7, k8, k9, k10, k11, k12]
def interned : List (Array UInt16 × Addr) := []
def slotsUsed : Nat := 49
def theMethod : MethodId := ⟨1, 3⟩
def args0 : Array Value := #[.int 5, .int 7]
def aboutOver (below : List Frame) : State where
  vm := { classes := classes, interned := interned.toArray }
  heap := heap
  slotsUsed := slotsUsed
  threads := #[{ frames := .invoking theMethod args0 :: below }]
def below0 : List Frame := [.native { method := ⟨0, 0⟩, args := #[] }]
def about1 : State := aboutOver below0
def p0 : Program := .bare "" "" ""
def e0 : Env := launch0.env 0 0 0
theorem w_frames : about1.frames = Frame.invoking theMethod args0 :: below0 := rfl
set_option maxRecDepth 65536 in
theorem w_args : argsFit about1.vm theMethod args0 = true := by decide +kernel
set_option maxRecDepth 65536 in
theorem w_heap : heapFits about1 = true := by decide +kernel
set_option maxRecDepth 65536 in
theorem w_runnable : about1.curStatus? = some .runnable := by decide +kernel
set_option maxRecDepth 65536 in
theorem w_alone : about1.alone = true := by decide +kernel
set_option maxRecDepth 65536 in
theorem w_named : about1.methodNamed? x = some theMethod := by decide +kernel
set_option maxRecDepth 65536 in
theorem w_hears : about1.hears theMethod below0 = true := by decide +kernel
set_option maxRecDepth 65536 in
theorem w_ripe : about1.ripe theMethod args0 below0 = true := by decide +kernel
theorem w_running : about1.status = .running := rfl
set_option maxRecDepth 65536 in
theorem w_room : about1.hasRoom e0.platform room_1 = true :=
  launch0.hasRoom_least _ room_1 (by decide +kernel) (by decide +kernel) (by decide +kernel) (by decide +kernel) (by decide +kernel) (by decide +kernel)
theorem allAtoms_all (ts : List Jvm.Cond) (a : Array Jvm.Value) (st : Jvm.State) : (allAtoms ts).before a st = ts.all (fun c => c.before a st) := by
  induction ts with
  | nil => rfl
  | cons c t ih =>
    show (Jvm.Cond.and c (allAtoms t)).before a st = _
    rw [Jvm.Cond.before_and, ih, List.all_cons]
def words1 : List Jvm.Cond := Jvm.Cond.code x code maxLocals ret :: tables_1
/-- a 'code' word, met by the world's own term for the bytes: nothing is compared byte by byte -/
theorem code_word {y : MethodName} {bytes : ByteArray} {mx : Nat} {rt : Option FieldType} {a : Array Value} {s : State} {m : MethodId} {meth : Method} {c : Code} (h1 : s.methodNamed? y = some m) (h2 : s.vm.method? m = some meth) (h3 : meth.code = some c) (h4 : c.code = bytes)
    (h5 : (c.maxLocals == mx && c.exceptionTable.isEmpty && decide (c.maxStack ≤ mostOperands) && decide (meth.sig.returnType = rt) && !meth.locks && decide (parseMethodDescriptor y.desc = some meth.sig)) = true) : (Jvm.Cond.code y bytes mx rt).before a s = true := by
  simp only [Bool.and_eq_true, beq_iff_eq, Bool.not_eq_true', decide_eq_true_eq] at h5
  obtain ⟨⟨⟨⟨⟨g1, g2⟩, g3⟩, g4⟩, g5⟩, g6⟩ := h5
  simp [Cond.before, Cond.holds, Cond.value, h1, h2, h3, h4, g1, g2, g3, g4, g5, g6]
def isCode : Jvm.Cond → Bool
  | .code _ _ _ _ => true
  | _ => false
theorem all_split {L : List Jvm.Cond} {P : Jvm.Cond → Bool} (h1 : L.all (fun c => isCode c || P c) = true) (h2 : ∀ c ∈ L.filter isCode, P c = true) : L.all P = true := by
  refine List.all_eq_true.mpr fun c hc => ?_
  have h := List.all_eq_true.mp h1 c hc
  rcases Bool.eq_false_or_eq_true (isCode c) with hi | hi
  · exact h2 c (List.mem_filter.mpr ⟨hc, hi⟩)
  · simpa [hi] using h
set_option maxRecDepth 65536 in
theorem w_c0 : (Jvm.Cond.code x code maxLocals ret).before args0 about1 = true := code_word (m := ⟨1, 3⟩) (meth := k1m3) (c := k1c3) (by decide +kernel) rfl rfl rfl (by decide +kernel)
set_option maxRecDepth 65536 in
theorem w_c1 : (Jvm.Cond.code ({ cls := "com/example/zia_tally/ziatally/evaluation/MethodOutcomePinLaw", name := "pick", desc := "(I)Lcom/example/zia_tally/ziatally/evaluation/Method;" } : Jvm.MethodName) method_2_code (2 : Nat) (Option.some (Jvm.ClassFile.FieldType.object "com/example/zia_tally/ziatally/evaluation/Method"))).before args0 about1 = true := code_word (m := ⟨1, 1⟩) (meth := k1m1) (c := k1c1) (by decide +kernel) rfl rfl rfl (by decide +kernel)
set_option maxRecDepth 65536 in
theorem w_c2 : (Jvm.Cond.code ({ cls := "com/example/zia_tally/ziatally/evaluation/Method", name := "outcome", desc := "(Z)Lcom/example/zia_tally/ziatally/evaluation/Outcome;" } : Jvm.MethodName) prog_7_method_7_code (2 : Nat) (Option.some (Jvm.ClassFile.FieldType.object "com/example/zia_tally/ziatally/evaluation/Outcome"))).before args0 about1 = true := code_word (m := ⟨6, 0⟩) (meth := k6m0) (c := k6c0) (by decide +kernel) rfl rfl rfl (by decide +kernel)
set_option maxRecDepth 65536 in
theorem w_c3 : (Jvm.Cond.code ({ cls := "com/example/zia_tally/ziatally/evaluation/MethodOutcomePinLaw", name := "expected", desc := "(IZ)Lcom/example/zia_tally/ziatally/evaluation/Outcome;" } : Jvm.MethodName) method_3_code (3 : Nat) (Option.some (Jvm.ClassFile.FieldType.object "com/example/zia_tally/ziatally/evaluation/Outcome"))).before args0 about1 = true := code_word (m := ⟨1, 2⟩) (meth := k1m2) (c := k1c2) (by decide +kernel) rfl rfl rfl (by decide +kernel)
def codes1 : List Jvm.Cond := [Jvm.Cond.code x code maxLocals ret, Jvm.Cond.code ({ cls := "com/example/zia_tally/ziatally/evaluation/MethodOutcomePinLaw", name := "pick", desc := "(I)Lcom/example/zia_tally/ziatally/evaluation/Method;" } : Jvm.MethodName) method_2_code (2 : Nat) (Option.some (Jvm.ClassFile.FieldType.object "com/example/zia_tally/ziatally/evaluation/Method")), Jvm.Cond.code ({ cls := "com/example/zia_tally/ziatally/evaluation/Method", name := "outcome", desc := "(Z)Lcom/example/zia_tally/ziatally/evaluation/Outcome;" } : Jvm.MethodName) prog_7_method_7_code (2 : Nat) (Option.some (Jvm.ClassFile.FieldType.object "com/example/zia_tally/ziatally/evaluation/Outcome")), Jvm.Cond.code ({ cls := "com/example/zia_tally/ziatally/evaluation/MethodOutcomePinLaw", name := "expected", desc := "(IZ)Lcom/example/zia_tally/ziatally/evaluation/Outcome;" } : Jvm.MethodName) method_3_code (3 : Nat) (Option.some (Jvm.ClassFile.FieldType.object "com/example/zia_tally/ziatally/evaluation/Outcome"))]
set_option maxRecDepth 65536 in
theorem codes_eq : words1.filter isCode = codes1 := rfl
theorem w_codes : ∀ c ∈ words1.filter isCode, c.before args0 about1 = true := by
  rw [codes_eq]
  intro c hc
  simp only [codes1, List.mem_cons, List.not_mem_nil, or_false] at hc
  rcases hc with rfl | rfl | rfl | rfl
  · exact w_c0
  · exact w_c1
  · exact w_c2
  · exact w_c3
set_option maxRecDepth 65536 in
theorem w_t1 : (words1.take 24).all (fun c => isCode c || c.before args0 about1) = true := by decide +kernel
set_option maxRecDepth 65536 in
theorem w_t2 : (words1.drop 24).all (fun c => isCode c || c.before args0 about1) = true := by decide +kernel
theorem w_tables : (allAtoms (Jvm.Cond.code x code maxLocals ret :: tables_1)).before args0 about1 = true := by
  rw [allAtoms_all]
  show words1.all (fun c => c.before args0 about1) = true
  refine all_split ?_ w_codes
  rw [← List.take_append_drop 24 words1, List.all_append, w_t1, w_t2]
  rfl
set_option maxRecDepth 65536 in
theorem w_case : (Jvm.Cond.and given_1 narrow_1).before args0 about1 = true := by decide +kernel
theorem w_applies : (headSpec (Jvm.Cond.code x code maxLocals ret :: tables_1) room_1).applies x e0.platform about1 = true :=
  (Spec.applies_iff w_frames).mpr ⟨w_running, w_runnable, w_alone, w_named, w_hears, w_ripe, w_room, w_tables⟩
theorem atStart : AtStart classFile x code maxLocals ret World_1 tables_1 room_1 Calls_1 rest_1 Pre_1 launch0 p0 e0 about1 theMethod args0 below0 :=
  ⟨lists_1, trivial, launch0.admits_env _ _ _, launch0.least_env, fairChoices_fair.cas, fairChoices_fair.clock, w_frames, w_args, w_heap, w_applies, trivial, trivial, w_case⟩
end start1
theorem witness_1 : WitnessClaimed_1 := ⟨start1.p0, start1.e0, start1.about1, start1.theMethod, start1.args0, start1.below0, start1.atStart⟩
end Jvm.Pilot.@@N@@
