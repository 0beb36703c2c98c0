import JvmDerived
import JvmDerived.Pilot.@@N@@Statement
import JvmDerived.Pilot.@@N@@Code
set_option linter.unusedVariables false
set_option linter.unusedSimpArgs false
namespace Jvm.RoadKit
open Sem ClassFile Op Lib Jvm.Stand Jvm.Free Jvm.LawKit
section New
variable {p : Program} {l : Launch} {e : Env} {R : Room} {s : State} {m : MethodId} {args : Array Value} {below : List Frame} {meth : Method} {c : Code} {T : State} {locs : List Loc} {cells slots : Nat}
theorem retI (X : Stand p l e R s m args below meth c T locs cells slots) (hx : p.tables.exec = Jvm.exec) {pc : Nat} {Ls : Array Slot} {z : Int32} {rest : List Value} (hret : meth.sig.returnType = some .int) (hd : decode c.code pc = .ok (.ireturn, 1)) {fs : List Frame}
    (hl : ∀ (f : JFrame) (acts : List Action), f.method = m → f.locked = none → f.entered = [] → (doReturn e (T.setTop f) acts (some (.int z))).1 = T.setFrames fs) : Steps p.tables e below (T.setTop (mkF m pc Ls (.int z :: rest))) (T.setFrames fs) := by
  have hm' : T.vm.method? m = some meth := X.method'
  have hn : narrow .int (.int z) = .int z := rfl
  show Steps p.tables e below (T.setTop { method := m, pc := pc, locals := Ls, stack := _ :: rest, locked := none }) _
  jvm_step X.here [X.here.top, hx, hd, hm', hret, hn]
  first | (intro acts; rw [hl _ acts rfl rfl rfl]) | rw [hl _ _ rfl rfl rfl]
  exact Steps.refl _
end New
end Jvm.RoadKit
namespace Jvm.Pilot.@@N@@
open Jvm Jvm.ClassFile Sem Op Lib Jvm.Free Jvm.Stand Jvm.LawKit Jvm.RoadKit Bundle Jvm.Pilot.@@N@@.Jvm.D
theorem own_eqI {t : Term} {n : Int32} {args : Array Value} {s : State} (h : (Jvm.Cond.eq t (.int n)).value args s none s [] = some true) : t.eval args s none [] s = some (.int n) := by
  simp only [Cond.value, Term.eval] at h
  cases ht : t.eval args s none [] s with
  | none => simp [ht] at h
  | some x => cases x <;> simp [ht] at h ⊢; exact h
theorem own_eqJ {t : Term} {n : Int64} {args : Array Value} {s : State} (h : (Jvm.Cond.eq t (.long n)).value args s none s [] = some true) : t.eval args s none [] s = some (.long n) := by
  simp only [Cond.value, Term.eval] at h
  cases ht : t.eval args s none [] s with
  | none => simp [ht] at h
  | some x => cases x <;> simp [ht] at h ⊢; exact h
theorem own_eqR {t u : Term} {a : Addr} {args : Array Value} {s : State} (h : (Jvm.Cond.eq t u).value args s none s [] = some true) (hu : u.eval args s none [] s = some (.ref a)) : t.eval args s none [] s = some (.ref a) := by
  simp only [Cond.value, hu] at h
  cases ht : t.eval args s none [] s with
  | none => simp [ht] at h
  | some x => cases x <;> simp [ht] at h ⊢; exact h
theorem own_len {t : Term} {w : Addr} {c : Cell} {ty : FieldType} {n : Int32} {args : Array Value} {s : State} (ev : t.eval args s none [] s = some (.ref w)) (A : Arr s s.heap w c ty) (h : (Term.length t).eval args s none [] s = some (.int n)) (hn : ¬ n < 0) : c.slots.size = n.toNatClampNeg := by
  simp only [Term.eval, ev, A.fin (Vm.Alike.refl _), Option.bind_eq_bind, Option.bind_some] at h
  split at h
  · rename_i hl
    have q : c.slots.size.toInt32 = n := by simpa using h
    rw [← q]
    have q2 : c.slots.size.toInt32.toInt = (c.slots.size : Int) := len_toInt hl
    have q3 := nat_of (j := c.slots.size.toInt32) (by rw [q]; exact hn)
    omega
  · simp at h
theorem own_extW {Z : State} {h h' : Heap} {a : Addr} {sl : Nat} {v : Value} (X : Ext Z.heap h) (W : Wr h h' a sl v) (q : Z.heap.size ≤ a) : Ext Z.heap h' := (Old.wr (Z := Z) ⟨rfl, X⟩ W q).2
theorem own_ext2 {h h' h'' : Heap} (X : Ext h h') (E : Ext h' h'') : Ext h h'' := ⟨Nat.le_trans X.1 E.1, fun x c q => E.2 x c (X.2 x c q)⟩
theorem own_extK {Z : State} {h h' : Heap} {ws : List Addr} (X : Ext Z.heap h) (K : Keep h h' ws) (q : ∀ x ∈ ws, Z.heap.size ≤ x) : Ext Z.heap h' := (Old.keep (Z := Z) ⟨rfl, X⟩ K q).2
theorem own_neI {t : Term} {n x : Int32} {args : Array Value} {s : State} (h : (Jvm.Cond.eq t (.int n)).value args s none s [] = some (!true)) (ev : t.eval args s none [] s = some (.int x)) : ¬ (x = n) := by
  intro q
  subst q
  simp [Cond.value, Term.eval, ev] at h
theorem own_nsRoot {Z : State} {a0 : Array Value} {O K : String} {n : Nat} (w : (Jvm.Cond.noSuperclass O).before a0 Z = true) (wk : (Jvm.Cond.instantiable K n).before a0 Z = true) (hn : O ≠ K) : NS Z O K := by
  obtain ⟨c, k, h1, h2, h3, -, -⟩ := Cond.noSuperclass_spec w
  obtain ⟨t, k', g1, -⟩ := Cond.instantiable_spec wk
  have ne := ids_ne h1 g1 hn
  refine ⟨c, t, h1, g1, fun fuel => ?_⟩
  cases fuel with
  | zero => rfl
  | succ f => simp [Vm.isSubclassAux, ne, h2, h3]
theorem own_nsNo {Z : State} {a0 : Array Value} {C S K : String} {n : Nat} (w : (Jvm.Cond.superclass C S).before a0 Z = true) (wk : (Jvm.Cond.instantiable K n).before a0 Z = true) (N : NS Z C K) (hn : C ≠ K) : ∃ c t, Z.vm.findClass C = some c ∧ Z.vm.findClass K = some t ∧ Z.vm.assignable c t = false := by
  obtain ⟨c, t, h0, g0, n3⟩ := N
  obtain ⟨p, k, kp, h1, h2, h3, h4, h5, -, h7⟩ := Cond.superclass_spec h0 w
  obtain ⟨q, k', g1, g2, g5, g7, -, -⟩ := Cond.instantiable_spec wk
  cases g0.symm.trans g1
  have ne := ids_ne h0 g0 hn
  have gi : k'.isInterface = false := by cases hi : k'.isInterface <;> simp [hi] at g7 ⊢
  refine ⟨c, t, h0, g0, ?_⟩
  show Z.vm.assignableAux (255 + 1) c t = false
  simp [Vm.assignableAux, ne, h2, g2, h5, g5, gi, Vm.isSubclass, n3]
theorem own_nb (x : Int32) : nar .byte (x.toInt8.toInt32) = x.toInt8.toInt32 := by simp [nar]
abbrev own_S (p : Program) (e : Env) (below : List Frame) (T : State) (g : JFrame) (t : State) : Prop := Steps p.tables e below (T.setTop g) t
theorem own_w {Z : State} {a0 : Array Value} (hw : ∀ d ∈ tables_1, d.before a0 Z = true) {d : Jvm.Cond} (i : Nat) (h : tables_1[i]? = some d) : d.before a0 Z = true := hw _ (List.mem_of_getElem? h)
/-- a body's contract: what it returns and leaves -/
abbrev own_met (l : Launch) (y : MethodName) (b : ByteArray) (ml : Nat) (rt : Option FieldType) (ws : List Jvm.Cond) (R : Room) (Z : State) (A : Array Value) (h0 : Heap) (Q : Option Value → Heap → List Loc → Prop) : Prop :=
  MetFree l y (head1 (Jvm.Cond.code y b ml rt :: ws) R) (fun a U => a = A ∧ Z.Warmed39 U.vm ∧ U.heap = h0) (fun _ _ _ _ _ => True) (fun _ U o U' => ∃ v L, o = .returned v ∧ Q v U'.heap L ∧ FrameEnd U o U' L R.cells R.slots)
theorem own_start {l : Launch} {y : MethodName} {b : ByteArray} {ml : Nat} {rt : Option FieldType} {ws : List Jvm.Cond} {R : Room} {Z : State} {A : Array Value} {h0 : Heap} {Q : Option Value → Heap → List Loc → Prop} {Ls : Array Slot}
    (hpl : plainFor y = true) (hef : ∀ m, entryFrame m A ml = mkF m 0 Ls [])
    (body : ∀ p e s m below meth c s₁, p.tables.exec = Jvm.exec → c.code = b → c.maxLocals = ml → s.vm.findClass y.cls = some m.cls → meth.name = y.name → Stand p l e R s m A below meth c s₁ [] 0 0 → Z.Warmed39 s.vm → s₁.heap = h0 → meth.sig.returnType = rt → meth.locks = false →
      ∃ s₂ o, Steps p.tables e below (s₁.setTop (mkF m 0 Ls [])) s₂ ∧ s₂.status = .running ∧ Ended s₂ below o ∧ ∃ v L, o = .returned v ∧ Q v s₂.heap L ∧ FrameEnd s o s₂ L R.cells R.slots) : own_met l y b ml rt ws R Z A h0 Q := by
  refine MetFree.of_bodySF hpl hisR ?_
  intro p e s m args below meth c s₁ Bd hml0 hP hK
  obtain ⟨rfl, hZ, hh⟩ := hP
  obtain ⟨s₂, o, k, r⟩ := body p e s m below meth c s₁ Bd.exec Bd.bytes hml0 (findClass_of_methodNamed Bd.named) (name_of_methodNamed Bd.named Bd.method).1 (Stand.of_body Bd) hZ (by rw [← hh, Bd.state]; rfl) Bd.returns Bd.notSynchronized
  exact ⟨s₂, o, castTop (hef m) k, r⟩
section OwnCalls
variable {p : Program} {l : Launch} {e : Env} {R : Room} {s : State} {m : MethodId} {args : Array Value} {below : List Frame} {meth : Method} {c : Code} {T : State} {locs : List Loc} {cells slots : Nat} {Z : State} {a0 : Array Value} {h : Heap} {own : String} {index : Nat} {y z : MethodName} {b : ByteArray} {ml : Nat} {rt : Option FieldType} {rm : Room} {as' : Array Value} {Q : Option Value → Heap → List Loc → Prop} {W : Nat} {g : JFrame} {argsL rest : List Value}
theorem own_static (X : Stand p l e R s m args below meth c T locs cells slots) (hx : p.tables.exec = Jvm.exec) (hZ : Z.Warmed39 s.vm) (hown : s.vm.findClass own = some m.cls) (w1 : (Jvm.Cond.methodLink own index y).before a0 Z = true) (w2 : (Jvm.Cond.static y).before a0 Z = true) (w3 : (Jvm.Cond.initialized y.cls).before a0 Z = true) (w4 : (Jvm.Cond.code y b ml rt).before a0 Z = true)
    (hy : y.cls ≠ "java/lang/invoke/MethodHandle" ∧ y.cls ≠ "java/lang/invoke/VarHandle") (hM : own_met l y b ml rt [] rm Z as' h Q) (hf : rm.frames + 1 ≤ R.frames) (hl : W + (ml + 11) + rm.locals ≤ R.locals) (eT : T.heap = h) (hg : g.method = m) (hsize : g.locals.size = c.maxLocals) (hlen : ∀ sig, parseMethodDescriptor y.desc = some sig → argsL.length = sig.parameters.length) (ha : argsL.toArray = as')
    (hs : g.stack = argsL.reverse ++ rest) (hW : 2 * g.monitorRoom + (rest.map fun v => v.category).sum ≤ W) (hd : decode c.code g.pc = .ok (.invokestatic index, 3)) (hc : cells + rm.cells ≤ R.cells) (hsl : slots + rm.slots ≤ R.slots) :
    ∃ v T' L, Stand p l e R s m args below meth c T' (locs ++ L) (cells + rm.cells) (slots + rm.slots) ∧ Q v T'.heap L ∧ ∀ target, Steps p.tables e below (T'.setTop { g with pc := g.pc + 3, stack := v.toList ++ rest }) target → Steps p.tables e below (T.setTop g) target := by
  obtain ⟨v, _, ⟨T', L', k', n'⟩, -, X', ⟨Lc, hQ, l1, y1, z1⟩, st⟩ := Jvm.LawKit.callS X hx (y := y) hown (mvT hZ w1) (mvT hZ w2) (mvT hZ w3) (mvT hZ w4) hy (backOf (W := W) hM hZ w4 w3 hf hl) (g := g) hg hsize (argsL := argsL) (rest := rest) hlen hs hW hd (fun _ _ => ⟨ha, eT, hc, hsl⟩)
  dsimp only [Pt.U, Pt.locs, Pt.cells, Pt.slots] at X' l1 y1 z1 st hQ
  subst l1 y1 z1
  exact ⟨v, T', Lc, X', hQ, st⟩
theorem own_special (X : Stand p l e R s m args below meth c T locs cells slots) (hx : p.tables.exec = Jvm.exec) (hZ : Z.Warmed39 s.vm) (hown : s.vm.findClass own = some m.cls) (hn : y.name = "<init>") (w1 : (Jvm.Cond.methodLink own index y).before a0 Z = true) (w2 : (Jvm.Cond.instanceMethod y).before a0 Z = true) (w3 : (Jvm.Cond.initialized y.cls).before a0 Z = true) (w4 : (Jvm.Cond.code y b ml none).before a0 Z = true)
    (hy : y.cls ≠ "java/lang/invoke/MethodHandle" ∧ y.cls ≠ "java/lang/invoke/VarHandle") (hM : own_met l y b ml none [] rm Z as' h Q) (hf : rm.frames + 1 ≤ R.frames) (hl : W + (ml + 11) + rm.locals ≤ R.locals) (eT : T.heap = h) (hg : g.method = m) (hsize : g.locals.size = c.maxLocals) (a : Addr) (hlen : ∀ sig, parseMethodDescriptor y.desc = some sig → argsL.length = sig.parameters.length) (ha : (Value.ref a :: argsL).toArray = as')
    (hs : g.stack = argsL.reverse ++ .ref a :: rest) (hW : 2 * g.monitorRoom + (rest.map fun v => v.category).sum ≤ W) (hd : decode c.code g.pc = .ok (.invokespecial index, 3)) (hc : cells + rm.cells ≤ R.cells) (hsl : slots + rm.slots ≤ R.slots) :
    ∃ v T' L, Stand p l e R s m args below meth c T' (locs ++ L) (cells + rm.cells) (slots + rm.slots) ∧ Q v T'.heap L ∧ ∀ target, Steps p.tables e below (T'.setTop { g with pc := g.pc + 3, stack := v.toList ++ rest }) target → Steps p.tables e below (T.setTop g) target := by
  obtain ⟨v, _, ⟨T', L', k', n'⟩, -, X', ⟨Lc, hQ, l1, y1, z1⟩, st⟩ := X.specialBack hx (y := y) hn hown (mvT hZ w1) (mvT hZ w2) (mvT hZ w4) hy (backOf (W := W) hM hZ w4 w3 hf hl) (g := g) hg hsize (Steps.refl _) (a := a) (argsL := argsL) (rest := rest) hlen hs hW hd (fun _ _ => ⟨ha, eT, hc, hsl⟩)
  dsimp only [Pt.U, Pt.locs, Pt.cells, Pt.slots] at X' l1 y1 z1 st hQ
  subst l1 y1 z1
  exact ⟨v, T', Lc, X', hQ, fun _ k => st.trans k⟩
theorem own_virtual (X : Stand p l e R s m args below meth c T locs cells slots) (hx : p.tables.exec = Jvm.exec) (hZ : Z.Warmed39 s.vm) (hown : s.vm.findClass own = some m.cls) {C : String} (w1 : (Jvm.Cond.methodLink own index y).before a0 Z = true) (w5 : (Jvm.Cond.declares y).before a0 Z = true) (w6 : (Jvm.Cond.selects C y y).before a0 Z = true) (w2 : (Jvm.Cond.instanceMethod y).before a0 Z = true) (w3 : (Jvm.Cond.initialized y.cls).before a0 Z = true) (w4 : (Jvm.Cond.code y b ml rt).before a0 Z = true)
    (hy : y.cls ≠ "java/lang/invoke/MethodHandle" ∧ y.cls ≠ "java/lang/invoke/VarHandle") (hM : own_met l y b ml rt [] rm Z as' h Q) (hf : rm.frames + 1 ≤ R.frames) (hl : W + (ml + 11) + rm.locals ≤ R.locals) (eT : T.heap = h) {a : Addr} (E : Exa Z h a C) (hg : g.method = m) (hsize : g.locals.size = c.maxLocals) (hlen : ∀ sig, parseMethodDescriptor y.desc = some sig → argsL.length = sig.parameters.length) (ha : (Value.ref a :: argsL).toArray = as')
    (hs : g.stack = argsL.reverse ++ .ref a :: rest) (hW : 2 * g.monitorRoom + (rest.map fun v => v.category).sum ≤ W) (hd : decode c.code g.pc = .ok (.invokevirtual index, 3)) (hc : cells + rm.cells ≤ R.cells) (hsl : slots + rm.slots ≤ R.slots) :
    ∃ v T' L, Stand p l e R s m args below meth c T' (locs ++ L) (cells + rm.cells) (slots + rm.slots) ∧ Q v T'.heap L ∧ ∀ target, Steps p.tables e below (T'.setTop { g with pc := g.pc + 3, stack := v.toList ++ rest }) target → Steps p.tables e below (T.setTop g) target := by
  obtain ⟨cq, kq, qa, qb, qc⟩ := isOf hZ eT E
  obtain ⟨v, _, ⟨T', L', k', n'⟩, -, X', ⟨Lc, hQ, l1, y1, z1⟩, st⟩ := X.virtualBack hx (y := y) (z := y) hown (mvT hZ w1) (mvT hZ w5) (notFace_of_selects (args := #[]) (mvT hZ w6)) (mvT hZ w6) (mvT hZ w2) hy (backOf (W := W) hM hZ w4 w3 hf hl) qa qc (g := g) hg hsize (Steps.refl _) (argsL := argsL) (rest := rest) hlen hs hW hd (fun _ _ => ⟨ha, eT, hc, hsl⟩)
  dsimp only [Pt.U, Pt.locs, Pt.cells, Pt.slots] at X' l1 y1 z1 st hQ
  subst l1 y1 z1
  exact ⟨v, T', Lc, X', hQ, fun _ k => st.trans k⟩
theorem own_virtualUp (X : Stand p l e R s m args below meth c T locs cells slots) (hx : p.tables.exec = Jvm.exec) (hZ : Z.Warmed39 s.vm) (hown : s.vm.findClass own = some m.cls) {C owner : String} (w1 : (Jvm.Cond.methodLink own index z).before a0 Z = true) (w7 : (Jvm.Cond.sameMethod z.cls owner z.name z.desc).before a0 Z = true) (w5 : (Jvm.Cond.declares ⟨owner, z.name, z.desc⟩).before a0 Z = true) (w6 : (Jvm.Cond.selects C z y).before a0 Z = true) (w2 : (Jvm.Cond.instanceMethod y).before a0 Z = true) (w3 : (Jvm.Cond.initialized y.cls).before a0 Z = true) (w4 : (Jvm.Cond.code y b ml rt).before a0 Z = true)
    (hy : owner ≠ "java/lang/invoke/MethodHandle" ∧ owner ≠ "java/lang/invoke/VarHandle") (hM : own_met l y b ml rt [] rm Z as' h Q) (hf : rm.frames + 1 ≤ R.frames) (hl : W + (ml + 11) + rm.locals ≤ R.locals) (eT : T.heap = h) {a : Addr} (E : Exa Z h a C) (hg : g.method = m) (hsize : g.locals.size = c.maxLocals) (hlen : ∀ sig, parseMethodDescriptor z.desc = some sig → argsL.length = sig.parameters.length) (ha : (Value.ref a :: argsL).toArray = as')
    (hs : g.stack = argsL.reverse ++ .ref a :: rest) (hW : 2 * g.monitorRoom + (rest.map fun v => v.category).sum ≤ W) (hd : decode c.code g.pc = .ok (.invokevirtual index, 3)) (hc : cells + rm.cells ≤ R.cells) (hsl : slots + rm.slots ≤ R.slots) :
    ∃ v T' L, Stand p l e R s m args below meth c T' (locs ++ L) (cells + rm.cells) (slots + rm.slots) ∧ Q v T'.heap L ∧ ∀ target, Steps p.tables e below (T'.setTop { g with pc := g.pc + 3, stack := v.toList ++ rest }) target → Steps p.tables e below (T.setTop g) target := by
  obtain ⟨cq, kq, qa, qb, qc⟩ := isOf hZ eT E
  obtain ⟨v, _, ⟨T', L', k', n'⟩, -, X', ⟨Lc, hQ, l1, y1, z1⟩, st⟩ := X.virtualBackUp hx (x := z) (y := y) (owner := owner) hown (mvT hZ w1) (mvT hZ w7) (mvT hZ w5) hy (mvT hZ w6) (mvT hZ w2) (backOf (W := W) hM hZ w4 w3 hf hl) qa qc (g := g) hg hsize (Steps.refl _) (argsL := argsL) (rest := rest) hlen hs hW hd (fun _ _ => ⟨ha, eT, hc, hsl⟩)
  dsimp only [Pt.U, Pt.locs, Pt.cells, Pt.slots] at X' l1 y1 z1 st hQ
  subst l1 y1 z1
  exact ⟨v, T', Lc, X', hQ, fun _ k => st.trans k⟩
end OwnCalls

theorem own_split (p1 : Int32) : ((p1 &&& (2147483647 : Int32)) % (6 : Int32)) = (0 : Int32) ∨ ((p1 &&& (2147483647 : Int32)) % (6 : Int32)) = (1 : Int32) ∨ ((p1 &&& (2147483647 : Int32)) % (6 : Int32)) = (2 : Int32) ∨ ((p1 &&& (2147483647 : Int32)) % (6 : Int32)) = (3 : Int32) ∨ ((p1 &&& (2147483647 : Int32)) % (6 : Int32)) = (4 : Int32) ∨ ((p1 &&& (2147483647 : Int32)) % (6 : Int32)) = (5 : Int32) := by
  have h := c_mask p1 (2147483647 : Int32) 31 (by decide) (by decide)
  have hk : ((2 ^ 31 : Nat) : Int) = 2147483648 := by decide
  rw [hk] at h
  have h2 := (c_irem (p1 &&& (2147483647 : Int32)) (6 : Int32) 6 (by decide)).1 (by omega)
  have q : (((p1 &&& (2147483647 : Int32)) % (6 : Int32))).toInt = 0 ∨ (((p1 &&& (2147483647 : Int32)) % (6 : Int32))).toInt = 1 ∨ (((p1 &&& (2147483647 : Int32)) % (6 : Int32))).toInt = 2 ∨ (((p1 &&& (2147483647 : Int32)) % (6 : Int32))).toInt = 3 ∨ (((p1 &&& (2147483647 : Int32)) % (6 : Int32))).toInt = 4 ∨ (((p1 &&& (2147483647 : Int32)) % (6 : Int32))).toInt = 5 := by omega
  rcases q with q | q | q | q | q | q
  · exact Or.inl (Int32.toInt_inj.mp (q.trans (by decide)))
  · exact Or.inr (Or.inl (Int32.toInt_inj.mp (q.trans (by decide))))
  · exact Or.inr (Or.inr (Or.inl (Int32.toInt_inj.mp (q.trans (by decide)))))
  · exact Or.inr (Or.inr (Or.inr (Or.inl (Int32.toInt_inj.mp (q.trans (by decide))))))
  · exact Or.inr (Or.inr (Or.inr (Or.inr (Or.inl (Int32.toInt_inj.mp (q.trans (by decide)))))))
  · exact Or.inr (Or.inr (Or.inr (Or.inr (Or.inr ((Int32.toInt_inj.mp (q.trans (by decide))))))))
theorem pn_0 : plainName "com/example/fingerwork/fingerwork/PointerAction" = true := by first | (simp [plainName, overriddenIn]; done) | decide +kernel
theorem pn_1 : plainName "com/example/fingerwork/fingerwork/PointerActionHasSinglePointerPinLaw" = true := by first | (simp [plainName, overriddenIn]; done) | decide +kernel
theorem pd_0 : parseMethodDescriptor "()Z" = some ⟨[], some .boolean⟩ := by decide +kernel
abbrev y_0 : MethodName := ⟨"com/example/fingerwork/fingerwork/PointerAction", "hasSinglePointer", "()Z"⟩
theorem d_prog_17_method_6_0 : decode prog_17_method_6_code 0 = .ok (.aload_n 0, 1) := by decide +kernel
theorem d_prog_17_method_6_1 : decode prog_17_method_6_code 1 = .ok (.getstatic 3, 3) := by decide +kernel
theorem d_prog_17_method_6_4 : decode prog_17_method_6_code 4 = .ok (.if_acmp .eq 10, 3) := by decide +kernel
theorem d_prog_17_method_6_14 : decode prog_17_method_6_code 14 = .ok (.iconst 1, 1) := by decide +kernel
theorem d_prog_17_method_6_15 : decode prog_17_method_6_code 15 = .ok (.goto 4, 3) := by decide +kernel
theorem d_prog_17_method_6_19 : decode prog_17_method_6_code 19 = .ok (.ireturn, 1) := by decide +kernel
theorem d_prog_17_method_6_7 : decode prog_17_method_6_code 7 = .ok (.aload_n 0, 1) := by decide +kernel
theorem d_prog_17_method_6_8 : decode prog_17_method_6_code 8 = .ok (.getstatic 16, 3) := by decide +kernel
theorem d_prog_17_method_6_11 : decode prog_17_method_6_code 11 = .ok (.if_acmp .ne 7, 3) := by decide +kernel
theorem d_prog_17_method_6_18 : decode prog_17_method_6_code 18 = .ok (.iconst 0, 1) := by decide +kernel
theorem ef_prog_17_method_6_R (m : MethodId) (x0 : Addr) : entryFrame m #[(.ref x0)] 1 = mkF m 0 #[.val (.ref x0)] [] := by first | (simp [entryFrame, mkF, argsToLocals, Value.category]; done) | rfl
theorem ef_code_I (m : MethodId) (x0 : Int32) : entryFrame m #[(.int x0)] maxLocals = mkF m 0 #[.val (.int x0), .unset, .unset, .unset] [] := by first | (simp [entryFrame, mkF, argsToLocals, Value.category, maxLocals]; done) | rfl
def Qrm2 (Z : State) (w_DOWN : Addr) (h0 : Heap) (v : Option Value) (h : Heap) (L : List Loc) : Prop := v = some (.int (1 : Int32)) ∧ Fr Z.heap.size L ∧ h = h0
set_option maxRecDepth 65536 in
set_option maxHeartbeats 40000000 in
theorem rm2 (l : Launch) (Z : State) (a0 : Array Value) (hw : ∀ d ∈ tables_1, d.before a0 Z = true) (ws : List Jvm.Cond) (w_DOWN : Addr) (h0 : Heap) (Z0 : Ext Z.heap h0) (S_w_DOWN : Sta Z Z.heap "com/example/fingerwork/fingerwork/PointerAction" "DOWN" "Lcom/example/fingerwork/fingerwork/PointerAction;" (.ref w_DOWN)) :
    own_met l y_0 prog_17_method_6_code 1 (some .boolean) ws ({ frames := 0, cells := 0, slots := 0, locals := 0 } : Room) Z #[(.ref w_DOWN)] h0 (Qrm2 Z w_DOWN h0) := by
  refine own_start (plainFor_of_name pn_0) (fun m => ef_prog_17_method_6_R m w_DOWN) ?_
  intro p e s m below meth c s₁ hx hby hml hown hnm X0 hZ e0 hret hlk
  have N0 := Fr.nil Z.heap.size
  obtain ⟨T3, X3, e3, st3⟩ := getS2 X0 hx hZ hown (host := "") (Or.inl (own_w hw 9 rfl)) Via.refl e0 (S_w_DOWN.ext Z0) (g := (mkF m 1 #[.val (.ref w_DOWN)] [(.ref w_DOWN)])) rfl (hb hby d_prog_17_method_6_1)
  obtain ⟨fs, hr, hrun, hended, hW, hsame⟩ := X3.leave (v := some (.int (1 : Int32))) (fun h => by rw [hret] at h; cases h) hlk
  refine ⟨_, _, ?_, hrun, hended, _, _, rfl, ?_, ⟨_, rfl⟩, hW, hsame.mono (by decide) (by decide)⟩
  · show own_S p e below s₁ (mkF m 0 #[.val (.ref w_DOWN)] []) _
    refine XS.aloadN X0.here hx rfl (hb hby d_prog_17_method_6_0) rfl rfl ?_
    show own_S p e below s₁ (mkF m 1 #[.val (.ref w_DOWN)] [(.ref w_DOWN)]) _
    refine st3 _ ?_
    show own_S p e below T3 (mkF m 4 #[.val (.ref w_DOWN)] [(.ref w_DOWN), (.ref w_DOWN)]) _
    refine Jvm.RoadKit.acmp (g := (mkF m 4 #[.val (.ref w_DOWN)] [(.ref w_DOWN), (.ref w_DOWN)])) X3 hx rfl rfl rfl (pc0 := 4) (pc' := 14) (same := true) rfl (hb hby d_prog_17_method_6_4) rfl (decide_eq_true rfl) (by decide) (by decide) ?_
    show own_S p e below T3 (mkF m 14 #[.val (.ref w_DOWN)] []) _
    refine XS.iconst X3.here hx rfl (hb hby d_prog_17_method_6_14) ?_
    show own_S p e below T3 (mkF m 15 #[.val (.ref w_DOWN)] [(.int (1 : Int32))]) _
    refine XS.goto X3.here hx rfl (pc0 := 15) (pc' := 19) rfl (hb hby d_prog_17_method_6_15) (by decide) (by decide) ?_
    show own_S p e below T3 (mkF m 19 #[.val (.ref w_DOWN)] [(.int (1 : Int32))]) _
    exact retN X3 hx (t := .boolean) hret (by simp) (hb hby d_prog_17_method_6_19) hr
  · show Qrm2 Z w_DOWN h0 _ T3.heap _
    rw [e3]
    exact ⟨rfl, N0, rfl⟩
def Qrm0_0 (Z : State) (w_DOWN : Addr) (p1 : Int32) (h0 : Heap) (v : Option Value) (h : Heap) (L : List Loc) : Prop := v = some (.int 1) ∧ Fr Z.heap.size L
set_option maxRecDepth 65536 in
set_option maxHeartbeats 40000000 in
theorem rm0_0 (l : Launch) (Z : State) (a0 : Array Value) (hw : ∀ d ∈ tables_1, d.before a0 Z = true) (ws : List Jvm.Cond) (w_DOWN : Addr) (p1 : Int32) (h0 : Heap) (Z0 : Ext Z.heap h0) (S_w_DOWN : Sta Z Z.heap "com/example/fingerwork/fingerwork/PointerAction" "DOWN" "Lcom/example/fingerwork/fingerwork/PointerAction;" (.ref w_DOWN)) (E_w_DOWN : Exa Z Z.heap w_DOWN "com/example/fingerwork/fingerwork/PointerAction") (hc1 : ((p1 &&& (2147483647 : Int32)) % (6 : Int32)) = (0 : Int32)) :
    own_met l x code maxLocals ret ws room_1 Z #[(.int p1)] h0 (Qrm0_0 Z w_DOWN p1 h0) := by
  refine own_start (plainFor_of_name pn_1) (fun m => ef_code_I m p1) ?_
  intro p e s m below meth c s₁ hx hby hml hown hnm X0 hZ e0 hret hlk
  have N0 := Fr.nil Z.heap.size
  obtain ⟨T1, X1, e1, st1⟩ := getS2 X0 hx hZ hown (host := "") (Or.inl (own_w hw 1 rfl)) Via.refl e0 (S_w_DOWN.ext Z0) (g := (mkF m 12 #[.val (.int p1), .val (.int (0 : Int32)), .unset, .unset] [])) rfl (hb hby at_12)
  obtain ⟨_, T4, Lc4, X4, hQ4, st4⟩ := own_virtual (y := y_0) X1 hx hZ hown (own_w hw 4 rfl) (own_w hw 5 rfl) (own_w hw 7 rfl) (own_w hw 6 rfl) (own_w hw 2 rfl) (own_w hw 8 rfl) (by decide) (rm2 l Z a0 hw [] w_DOWN h0 Z0 S_w_DOWN) (by decide) (by decide) e1 (E_w_DOWN.ext Z0) (g := (mkF m 84 #[.val (.int p1), .val (.int (0 : Int32)), .val (.ref w_DOWN), .val (.int (1 : Int32))] [(.ref w_DOWN)])) rfl (by rw [hml]; rfl) (argsL := []) (rest := []) (lenOf pd_0 rfl) rfl rfl (W := 0) (by show 2 * 0 + _ ≤ _; exact Nat.le_of_eq rfl) (hb hby at_84) (by decide) (by decide)
  obtain ⟨rfl, N4q, e4⟩ := hQ4
  have N4 := Fr.app N0 N4q
  obtain ⟨fs, hr, hrun, hended, hW, hsame⟩ := X4.leave (v := some (.int (1 : Int32))) (fun h => by rw [hret] at h; cases h) hlk
  refine ⟨_, _, ?_, hrun, hended, _, _, rfl, ?_, ⟨_, rfl⟩, hW, hsame.mono (by decide) (by decide)⟩
  · show own_S p e below s₁ (mkF m 0 #[.val (.int p1), .unset, .unset, .unset] []) _
    refine XS.iloadN X0.here hx rfl (hb hby at_0) rfl ?_
    show own_S p e below s₁ (mkF m 1 #[.val (.int p1), .unset, .unset, .unset] [(.int p1)]) _
    refine X0.ldcInt hx hown (mvT hZ (own_w hw 0 rfl)) (g := (mkF m 1 #[.val (.int p1), .unset, .unset, .unset] [(.int p1)])) rfl (hb hby at_1) _ ?_
    show own_S p e below s₁ (mkF m 3 #[.val (.int p1), .unset, .unset, .unset] [(.int (2147483647 : Int32)), (.int p1)]) _
    refine XS.iand X0.here hx rfl (hb hby at_3) rfl ?_
    show own_S p e below s₁ (mkF m 4 #[.val (.int p1), .unset, .unset, .unset] [(.int (p1 &&& (2147483647 : Int32)))]) _
    refine XS.bipush X0.here hx rfl (hb hby at_4) ?_
    show own_S p e below s₁ (mkF m 6 #[.val (.int p1), .unset, .unset, .unset] [(.int (6 : Int32)), (.int (p1 &&& (2147483647 : Int32)))]) _
    refine iremM X0 hx rfl (hb hby at_6) rfl (by decide) ?_
    show own_S p e below s₁ (mkF m 7 #[.val (.int p1), .unset, .unset, .unset] [(.int ((p1 &&& (2147483647 : Int32)) % (6 : Int32)))]) _
    rw [hc1]
    show own_S p e below s₁ (mkF m 7 #[.val (.int p1), .unset, .unset, .unset] [(.int (0 : Int32))]) _
    refine XS.istoreN X0.here hx rfl (hb hby at_7) rfl (l' := #[.val (.int p1), .val (.int (0 : Int32)), .unset, .unset]) rfl ?_
    show own_S p e below s₁ (mkF m 8 #[.val (.int p1), .val (.int (0 : Int32)), .unset, .unset] []) _
    refine XS.iloadN X0.here hx rfl (hb hby at_8) rfl ?_
    show own_S p e below s₁ (mkF m 9 #[.val (.int p1), .val (.int (0 : Int32)), .unset, .unset] [(.int (0 : Int32))]) _
    refine XS.ifNo X0.here hx rfl (hb hby at_9) rfl ((if0 _ _).trans (teq (rfl : (0 : Int32) = (0 : Int32))).2) ?_
    show own_S p e below s₁ (mkF m 12 #[.val (.int p1), .val (.int (0 : Int32)), .unset, .unset] []) _
    refine st1 _ ?_
    show own_S p e below T1 (mkF m 15 #[.val (.int p1), .val (.int (0 : Int32)), .unset, .unset] [(.ref w_DOWN)]) _
    refine XS.astoreN X1.here hx rfl (hb hby at_15) rfl rfl (l' := #[.val (.int p1), .val (.int (0 : Int32)), .val (.ref w_DOWN), .unset]) rfl ?_
    show own_S p e below T1 (mkF m 16 #[.val (.int p1), .val (.int (0 : Int32)), .val (.ref w_DOWN), .unset] []) _
    refine XS.iconst X1.here hx rfl (hb hby at_16) ?_
    show own_S p e below T1 (mkF m 17 #[.val (.int p1), .val (.int (0 : Int32)), .val (.ref w_DOWN), .unset] [(.int (1 : Int32))]) _
    refine XS.istoreN X1.here hx rfl (hb hby at_17) rfl (l' := #[.val (.int p1), .val (.int (0 : Int32)), .val (.ref w_DOWN), .val (.int (1 : Int32))]) rfl ?_
    show own_S p e below T1 (mkF m 18 #[.val (.int p1), .val (.int (0 : Int32)), .val (.ref w_DOWN), .val (.int (1 : Int32))] []) _
    refine XS.goto X1.here hx rfl (pc0 := 18) (pc' := 83) rfl (hb hby at_18) (by decide) (by decide) ?_
    show own_S p e below T1 (mkF m 83 #[.val (.int p1), .val (.int (0 : Int32)), .val (.ref w_DOWN), .val (.int (1 : Int32))] []) _
    refine XS.aloadN X1.here hx rfl (hb hby at_83) rfl rfl ?_
    show own_S p e below T1 (mkF m 84 #[.val (.int p1), .val (.int (0 : Int32)), .val (.ref w_DOWN), .val (.int (1 : Int32))] [(.ref w_DOWN)]) _
    refine st4 _ ?_
    show own_S p e below T4 (mkF m 87 #[.val (.int p1), .val (.int (0 : Int32)), .val (.ref w_DOWN), .val (.int (1 : Int32))] [(.int (1 : Int32))]) _
    refine XS.iloadN X4.here hx rfl (hb hby at_87) rfl ?_
    show own_S p e below T4 (mkF m 88 #[.val (.int p1), .val (.int (0 : Int32)), .val (.ref w_DOWN), .val (.int (1 : Int32))] [(.int (1 : Int32)), (.int (1 : Int32))]) _
    refine XS.icmpNo X4.here hx rfl (hb hby at_88) rfl (teq (rfl : (1 : Int32) = (1 : Int32))).2 ?_
    show own_S p e below T4 (mkF m 91 #[.val (.int p1), .val (.int (0 : Int32)), .val (.ref w_DOWN), .val (.int (1 : Int32))] []) _
    refine XS.iconst X4.here hx rfl (hb hby at_91) ?_
    show own_S p e below T4 (mkF m 92 #[.val (.int p1), .val (.int (0 : Int32)), .val (.ref w_DOWN), .val (.int (1 : Int32))] [(.int (1 : Int32))]) _
    refine XS.goto X4.here hx rfl (pc0 := 92) (pc' := 96) rfl (hb hby at_92) (by decide) (by decide) ?_
    show own_S p e below T4 (mkF m 96 #[.val (.int p1), .val (.int (0 : Int32)), .val (.ref w_DOWN), .val (.int (1 : Int32))] [(.int (1 : Int32))]) _
    exact retN X4 hx (t := .boolean) hret (by simp) (hb hby at_96) hr
  · show Qrm0_0 Z w_DOWN p1 h0 _ T4.heap _
    exact ⟨rfl, N4⟩
def Qrm6 (Z : State) (w_DOWN : Addr) (w_UP : Addr) (w_POINTER_DOWN : Addr) (h0 : Heap) (v : Option Value) (h : Heap) (L : List Loc) : Prop := v = some (.int (0 : Int32)) ∧ Fr Z.heap.size L ∧ h = h0
set_option maxRecDepth 65536 in
set_option maxHeartbeats 40000000 in
theorem rm6 (l : Launch) (Z : State) (a0 : Array Value) (hw : ∀ d ∈ tables_1, d.before a0 Z = true) (ws : List Jvm.Cond) (w_DOWN : Addr) (w_UP : Addr) (w_POINTER_DOWN : Addr) (h0 : Heap) (Z0 : Ext Z.heap h0) (S_w_DOWN : Sta Z Z.heap "com/example/fingerwork/fingerwork/PointerAction" "DOWN" "Lcom/example/fingerwork/fingerwork/PointerAction;" (.ref w_DOWN)) (S_w_UP : Sta Z Z.heap "com/example/fingerwork/fingerwork/PointerAction" "UP" "Lcom/example/fingerwork/fingerwork/PointerAction;" (.ref w_UP)) (hc3 : ¬ (w_POINTER_DOWN = w_DOWN)) (hc4 : ¬ (w_POINTER_DOWN = w_UP)) :
    own_met l y_0 prog_17_method_6_code 1 (some .boolean) ws ({ frames := 0, cells := 0, slots := 0, locals := 0 } : Room) Z #[(.ref w_POINTER_DOWN)] h0 (Qrm6 Z w_DOWN w_UP w_POINTER_DOWN h0) := by
  refine own_start (plainFor_of_name pn_0) (fun m => ef_prog_17_method_6_R m w_POINTER_DOWN) ?_
  intro p e s m below meth c s₁ hx hby hml hown hnm X0 hZ e0 hret hlk
  have N0 := Fr.nil Z.heap.size
  obtain ⟨T7, X7, e7, st7⟩ := getS2 X0 hx hZ hown (host := "") (Or.inl (own_w hw 9 rfl)) Via.refl e0 (S_w_DOWN.ext Z0) (g := (mkF m 1 #[.val (.ref w_POINTER_DOWN)] [(.ref w_POINTER_DOWN)])) rfl (hb hby d_prog_17_method_6_1)
  obtain ⟨T8, X8, e8, st8⟩ := getS2 X7 hx hZ hown (host := "") (Or.inl (own_w hw 12 rfl)) Via.refl e7 (S_w_UP.ext Z0) (g := (mkF m 8 #[.val (.ref w_POINTER_DOWN)] [(.ref w_POINTER_DOWN)])) rfl (hb hby d_prog_17_method_6_8)
  obtain ⟨fs, hr, hrun, hended, hW, hsame⟩ := X8.leave (v := some (.int (0 : Int32))) (fun h => by rw [hret] at h; cases h) hlk
  refine ⟨_, _, ?_, hrun, hended, _, _, rfl, ?_, ⟨_, rfl⟩, hW, hsame.mono (by decide) (by decide)⟩
  · show own_S p e below s₁ (mkF m 0 #[.val (.ref w_POINTER_DOWN)] []) _
    refine XS.aloadN X0.here hx rfl (hb hby d_prog_17_method_6_0) rfl rfl ?_
    show own_S p e below s₁ (mkF m 1 #[.val (.ref w_POINTER_DOWN)] [(.ref w_POINTER_DOWN)]) _
    refine st7 _ ?_
    show own_S p e below T7 (mkF m 4 #[.val (.ref w_POINTER_DOWN)] [(.ref w_DOWN), (.ref w_POINTER_DOWN)]) _
    refine Jvm.RoadKit.acmp (g := (mkF m 4 #[.val (.ref w_POINTER_DOWN)] [(.ref w_DOWN), (.ref w_POINTER_DOWN)])) X7 hx rfl rfl rfl (pc0 := 4) (pc' := 7) (same := false) rfl (hb hby d_prog_17_method_6_4) rfl (decide_eq_false fun q => hc3 (Value.ref.inj q)) (by decide) (by decide) ?_
    show own_S p e below T7 (mkF m 7 #[.val (.ref w_POINTER_DOWN)] []) _
    refine XS.aloadN X7.here hx rfl (hb hby d_prog_17_method_6_7) rfl rfl ?_
    show own_S p e below T7 (mkF m 8 #[.val (.ref w_POINTER_DOWN)] [(.ref w_POINTER_DOWN)]) _
    refine st8 _ ?_
    show own_S p e below T8 (mkF m 11 #[.val (.ref w_POINTER_DOWN)] [(.ref w_UP), (.ref w_POINTER_DOWN)]) _
    refine Jvm.RoadKit.acmp (g := (mkF m 11 #[.val (.ref w_POINTER_DOWN)] [(.ref w_UP), (.ref w_POINTER_DOWN)])) X8 hx rfl rfl rfl (pc0 := 11) (pc' := 18) (same := false) rfl (hb hby d_prog_17_method_6_11) rfl (decide_eq_false fun q => hc4 (Value.ref.inj q)) (by decide) (by decide) ?_
    show own_S p e below T8 (mkF m 18 #[.val (.ref w_POINTER_DOWN)] []) _
    refine XS.iconst X8.here hx rfl (hb hby d_prog_17_method_6_18) ?_
    show own_S p e below T8 (mkF m 19 #[.val (.ref w_POINTER_DOWN)] [(.int (0 : Int32))]) _
    exact retN X8 hx (t := .boolean) hret (by simp) (hb hby d_prog_17_method_6_19) hr
  · show Qrm6 Z w_DOWN w_UP w_POINTER_DOWN h0 _ T8.heap _
    rw [e8]
    exact ⟨rfl, N0, rfl⟩
def Qrm0_1 (Z : State) (w_DOWN : Addr) (w_UP : Addr) (w_POINTER_DOWN : Addr) (p1 : Int32) (h0 : Heap) (v : Option Value) (h : Heap) (L : List Loc) : Prop := v = some (.int 1) ∧ Fr Z.heap.size L
set_option maxRecDepth 65536 in
set_option maxHeartbeats 40000000 in
theorem rm0_1 (l : Launch) (Z : State) (a0 : Array Value) (hw : ∀ d ∈ tables_1, d.before a0 Z = true) (ws : List Jvm.Cond) (w_DOWN : Addr) (w_UP : Addr) (w_POINTER_DOWN : Addr) (p1 : Int32) (h0 : Heap) (Z0 : Ext Z.heap h0) (S_w_POINTER_DOWN : Sta Z Z.heap "com/example/fingerwork/fingerwork/PointerAction" "POINTER_DOWN" "Lcom/example/fingerwork/fingerwork/PointerAction;" (.ref w_POINTER_DOWN)) (E_w_POINTER_DOWN : Exa Z Z.heap w_POINTER_DOWN "com/example/fingerwork/fingerwork/PointerAction") (S_w_DOWN : Sta Z Z.heap "com/example/fingerwork/fingerwork/PointerAction" "DOWN" "Lcom/example/fingerwork/fingerwork/PointerAction;" (.ref w_DOWN)) (S_w_UP : Sta Z Z.heap "com/example/fingerwork/fingerwork/PointerAction" "UP" "Lcom/example/fingerwork/fingerwork/PointerAction;" (.ref w_UP)) (hc2 : ((p1 &&& (2147483647 : Int32)) % (6 : Int32)) = (1 : Int32)) (hc3 : ¬ (w_POINTER_DOWN = w_DOWN)) (hc4 : ¬ (w_POINTER_DOWN = w_UP)) :
    own_met l x code maxLocals ret ws room_1 Z #[(.int p1)] h0 (Qrm0_1 Z w_DOWN w_UP w_POINTER_DOWN p1 h0) := by
  refine own_start (plainFor_of_name pn_1) (fun m => ef_code_I m p1) ?_
  intro p e s m below meth c s₁ hx hby hml hown hnm X0 hZ e0 hret hlk
  have N0 := Fr.nil Z.heap.size
  obtain ⟨T5, X5, e5, st5⟩ := getS2 X0 hx hZ hown (host := "") (Or.inl (own_w hw 16 rfl)) Via.refl e0 (S_w_POINTER_DOWN.ext Z0) (g := (mkF m 26 #[.val (.int p1), .val (.int (1 : Int32)), .unset, .unset] [])) rfl (hb hby at_26)
  obtain ⟨_, T9, Lc9, X9, hQ9, st9⟩ := own_virtual (y := y_0) X5 hx hZ hown (own_w hw 4 rfl) (own_w hw 5 rfl) (own_w hw 7 rfl) (own_w hw 6 rfl) (own_w hw 2 rfl) (own_w hw 8 rfl) (by decide) (rm6 l Z a0 hw [] w_DOWN w_UP w_POINTER_DOWN h0 Z0 S_w_DOWN S_w_UP hc3 hc4) (by decide) (by decide) e5 (E_w_POINTER_DOWN.ext Z0) (g := (mkF m 84 #[.val (.int p1), .val (.int (1 : Int32)), .val (.ref w_POINTER_DOWN), .val (.int (0 : Int32))] [(.ref w_POINTER_DOWN)])) rfl (by rw [hml]; rfl) (argsL := []) (rest := []) (lenOf pd_0 rfl) rfl rfl (W := 0) (by show 2 * 0 + _ ≤ _; exact Nat.le_of_eq rfl) (hb hby at_84) (by decide) (by decide)
  obtain ⟨rfl, N9q, e9⟩ := hQ9
  have N9 := Fr.app N0 N9q
  obtain ⟨fs, hr, hrun, hended, hW, hsame⟩ := X9.leave (v := some (.int (1 : Int32))) (fun h => by rw [hret] at h; cases h) hlk
  refine ⟨_, _, ?_, hrun, hended, _, _, rfl, ?_, ⟨_, rfl⟩, hW, hsame.mono (by decide) (by decide)⟩
  · show own_S p e below s₁ (mkF m 0 #[.val (.int p1), .unset, .unset, .unset] []) _
    refine XS.iloadN X0.here hx rfl (hb hby at_0) rfl ?_
    show own_S p e below s₁ (mkF m 1 #[.val (.int p1), .unset, .unset, .unset] [(.int p1)]) _
    refine X0.ldcInt hx hown (mvT hZ (own_w hw 0 rfl)) (g := (mkF m 1 #[.val (.int p1), .unset, .unset, .unset] [(.int p1)])) rfl (hb hby at_1) _ ?_
    show own_S p e below s₁ (mkF m 3 #[.val (.int p1), .unset, .unset, .unset] [(.int (2147483647 : Int32)), (.int p1)]) _
    refine XS.iand X0.here hx rfl (hb hby at_3) rfl ?_
    show own_S p e below s₁ (mkF m 4 #[.val (.int p1), .unset, .unset, .unset] [(.int (p1 &&& (2147483647 : Int32)))]) _
    refine XS.bipush X0.here hx rfl (hb hby at_4) ?_
    show own_S p e below s₁ (mkF m 6 #[.val (.int p1), .unset, .unset, .unset] [(.int (6 : Int32)), (.int (p1 &&& (2147483647 : Int32)))]) _
    refine iremM X0 hx rfl (hb hby at_6) rfl (by decide) ?_
    show own_S p e below s₁ (mkF m 7 #[.val (.int p1), .unset, .unset, .unset] [(.int ((p1 &&& (2147483647 : Int32)) % (6 : Int32)))]) _
    rw [hc2]
    show own_S p e below s₁ (mkF m 7 #[.val (.int p1), .unset, .unset, .unset] [(.int (1 : Int32))]) _
    refine XS.istoreN X0.here hx rfl (hb hby at_7) rfl (l' := #[.val (.int p1), .val (.int (1 : Int32)), .unset, .unset]) rfl ?_
    show own_S p e below s₁ (mkF m 8 #[.val (.int p1), .val (.int (1 : Int32)), .unset, .unset] []) _
    refine XS.iloadN X0.here hx rfl (hb hby at_8) rfl ?_
    show own_S p e below s₁ (mkF m 9 #[.val (.int p1), .val (.int (1 : Int32)), .unset, .unset] [(.int (1 : Int32))]) _
    refine XS.ifYes X0.here hx rfl (pc0 := 9) (pc' := 21) rfl (hb hby at_9) rfl ((if0 _ _).trans (feq (by decide : ¬ ((1 : Int32) = (0 : Int32)))).2) (by decide) (by decide) ?_
    show own_S p e below s₁ (mkF m 21 #[.val (.int p1), .val (.int (1 : Int32)), .unset, .unset] []) _
    refine XS.iloadN X0.here hx rfl (hb hby at_21) rfl ?_
    show own_S p e below s₁ (mkF m 22 #[.val (.int p1), .val (.int (1 : Int32)), .unset, .unset] [(.int (1 : Int32))]) _
    refine XS.iconst X0.here hx rfl (hb hby at_22) ?_
    show own_S p e below s₁ (mkF m 23 #[.val (.int p1), .val (.int (1 : Int32)), .unset, .unset] [(.int (1 : Int32)), (.int (1 : Int32))]) _
    refine XS.icmpNo X0.here hx rfl (hb hby at_23) rfl (teq (rfl : (1 : Int32) = (1 : Int32))).2 ?_
    show own_S p e below s₁ (mkF m 26 #[.val (.int p1), .val (.int (1 : Int32)), .unset, .unset] []) _
    refine st5 _ ?_
    show own_S p e below T5 (mkF m 29 #[.val (.int p1), .val (.int (1 : Int32)), .unset, .unset] [(.ref w_POINTER_DOWN)]) _
    refine XS.astoreN X5.here hx rfl (hb hby at_29) rfl rfl (l' := #[.val (.int p1), .val (.int (1 : Int32)), .val (.ref w_POINTER_DOWN), .unset]) rfl ?_
    show own_S p e below T5 (mkF m 30 #[.val (.int p1), .val (.int (1 : Int32)), .val (.ref w_POINTER_DOWN), .unset] []) _
    refine XS.iconst X5.here hx rfl (hb hby at_30) ?_
    show own_S p e below T5 (mkF m 31 #[.val (.int p1), .val (.int (1 : Int32)), .val (.ref w_POINTER_DOWN), .unset] [(.int (0 : Int32))]) _
    refine XS.istoreN X5.here hx rfl (hb hby at_31) rfl (l' := #[.val (.int p1), .val (.int (1 : Int32)), .val (.ref w_POINTER_DOWN), .val (.int (0 : Int32))]) rfl ?_
    show own_S p e below T5 (mkF m 32 #[.val (.int p1), .val (.int (1 : Int32)), .val (.ref w_POINTER_DOWN), .val (.int (0 : Int32))] []) _
    refine XS.goto X5.here hx rfl (pc0 := 32) (pc' := 83) rfl (hb hby at_32) (by decide) (by decide) ?_
    show own_S p e below T5 (mkF m 83 #[.val (.int p1), .val (.int (1 : Int32)), .val (.ref w_POINTER_DOWN), .val (.int (0 : Int32))] []) _
    refine XS.aloadN X5.here hx rfl (hb hby at_83) rfl rfl ?_
    show own_S p e below T5 (mkF m 84 #[.val (.int p1), .val (.int (1 : Int32)), .val (.ref w_POINTER_DOWN), .val (.int (0 : Int32))] [(.ref w_POINTER_DOWN)]) _
    refine st9 _ ?_
    show own_S p e below T9 (mkF m 87 #[.val (.int p1), .val (.int (1 : Int32)), .val (.ref w_POINTER_DOWN), .val (.int (0 : Int32))] [(.int (0 : Int32))]) _
    refine XS.iloadN X9.here hx rfl (hb hby at_87) rfl ?_
    show own_S p e below T9 (mkF m 88 #[.val (.int p1), .val (.int (1 : Int32)), .val (.ref w_POINTER_DOWN), .val (.int (0 : Int32))] [(.int (0 : Int32)), (.int (0 : Int32))]) _
    refine XS.icmpNo X9.here hx rfl (hb hby at_88) rfl (teq (rfl : (0 : Int32) = (0 : Int32))).2 ?_
    show own_S p e below T9 (mkF m 91 #[.val (.int p1), .val (.int (1 : Int32)), .val (.ref w_POINTER_DOWN), .val (.int (0 : Int32))] []) _
    refine XS.iconst X9.here hx rfl (hb hby at_91) ?_
    show own_S p e below T9 (mkF m 92 #[.val (.int p1), .val (.int (1 : Int32)), .val (.ref w_POINTER_DOWN), .val (.int (0 : Int32))] [(.int (1 : Int32))]) _
    refine XS.goto X9.here hx rfl (pc0 := 92) (pc' := 96) rfl (hb hby at_92) (by decide) (by decide) ?_
    show own_S p e below T9 (mkF m 96 #[.val (.int p1), .val (.int (1 : Int32)), .val (.ref w_POINTER_DOWN), .val (.int (0 : Int32))] [(.int (1 : Int32))]) _
    exact retN X9 hx (t := .boolean) hret (by simp) (hb hby at_96) hr
  · show Qrm0_1 Z w_DOWN w_UP w_POINTER_DOWN p1 h0 _ T9.heap _
    exact ⟨rfl, N9⟩
def Qrm11 (Z : State) (w_DOWN : Addr) (w_UP : Addr) (w_MOVE : Addr) (h0 : Heap) (v : Option Value) (h : Heap) (L : List Loc) : Prop := v = some (.int (0 : Int32)) ∧ Fr Z.heap.size L ∧ h = h0
set_option maxRecDepth 65536 in
set_option maxHeartbeats 40000000 in
theorem rm11 (l : Launch) (Z : State) (a0 : Array Value) (hw : ∀ d ∈ tables_1, d.before a0 Z = true) (ws : List Jvm.Cond) (w_DOWN : Addr) (w_UP : Addr) (w_MOVE : Addr) (h0 : Heap) (Z0 : Ext Z.heap h0) (S_w_DOWN : Sta Z Z.heap "com/example/fingerwork/fingerwork/PointerAction" "DOWN" "Lcom/example/fingerwork/fingerwork/PointerAction;" (.ref w_DOWN)) (S_w_UP : Sta Z Z.heap "com/example/fingerwork/fingerwork/PointerAction" "UP" "Lcom/example/fingerwork/fingerwork/PointerAction;" (.ref w_UP)) (hc6 : ¬ (w_MOVE = w_DOWN)) (hc7 : ¬ (w_MOVE = w_UP)) :
    own_met l y_0 prog_17_method_6_code 1 (some .boolean) ws ({ frames := 0, cells := 0, slots := 0, locals := 0 } : Room) Z #[(.ref w_MOVE)] h0 (Qrm11 Z w_DOWN w_UP w_MOVE h0) := by
  refine own_start (plainFor_of_name pn_0) (fun m => ef_prog_17_method_6_R m w_MOVE) ?_
  intro p e s m below meth c s₁ hx hby hml hown hnm X0 hZ e0 hret hlk
  have N0 := Fr.nil Z.heap.size
  obtain ⟨T12, X12, e12, st12⟩ := getS2 X0 hx hZ hown (host := "") (Or.inl (own_w hw 9 rfl)) Via.refl e0 (S_w_DOWN.ext Z0) (g := (mkF m 1 #[.val (.ref w_MOVE)] [(.ref w_MOVE)])) rfl (hb hby d_prog_17_method_6_1)
  obtain ⟨T13, X13, e13, st13⟩ := getS2 X12 hx hZ hown (host := "") (Or.inl (own_w hw 12 rfl)) Via.refl e12 (S_w_UP.ext Z0) (g := (mkF m 8 #[.val (.ref w_MOVE)] [(.ref w_MOVE)])) rfl (hb hby d_prog_17_method_6_8)
  obtain ⟨fs, hr, hrun, hended, hW, hsame⟩ := X13.leave (v := some (.int (0 : Int32))) (fun h => by rw [hret] at h; cases h) hlk
  refine ⟨_, _, ?_, hrun, hended, _, _, rfl, ?_, ⟨_, rfl⟩, hW, hsame.mono (by decide) (by decide)⟩
  · show own_S p e below s₁ (mkF m 0 #[.val (.ref w_MOVE)] []) _
    refine XS.aloadN X0.here hx rfl (hb hby d_prog_17_method_6_0) rfl rfl ?_
    show own_S p e below s₁ (mkF m 1 #[.val (.ref w_MOVE)] [(.ref w_MOVE)]) _
    refine st12 _ ?_
    show own_S p e below T12 (mkF m 4 #[.val (.ref w_MOVE)] [(.ref w_DOWN), (.ref w_MOVE)]) _
    refine Jvm.RoadKit.acmp (g := (mkF m 4 #[.val (.ref w_MOVE)] [(.ref w_DOWN), (.ref w_MOVE)])) X12 hx rfl rfl rfl (pc0 := 4) (pc' := 7) (same := false) rfl (hb hby d_prog_17_method_6_4) rfl (decide_eq_false fun q => hc6 (Value.ref.inj q)) (by decide) (by decide) ?_
    show own_S p e below T12 (mkF m 7 #[.val (.ref w_MOVE)] []) _
    refine XS.aloadN X12.here hx rfl (hb hby d_prog_17_method_6_7) rfl rfl ?_
    show own_S p e below T12 (mkF m 8 #[.val (.ref w_MOVE)] [(.ref w_MOVE)]) _
    refine st13 _ ?_
    show own_S p e below T13 (mkF m 11 #[.val (.ref w_MOVE)] [(.ref w_UP), (.ref w_MOVE)]) _
    refine Jvm.RoadKit.acmp (g := (mkF m 11 #[.val (.ref w_MOVE)] [(.ref w_UP), (.ref w_MOVE)])) X13 hx rfl rfl rfl (pc0 := 11) (pc' := 18) (same := false) rfl (hb hby d_prog_17_method_6_11) rfl (decide_eq_false fun q => hc7 (Value.ref.inj q)) (by decide) (by decide) ?_
    show own_S p e below T13 (mkF m 18 #[.val (.ref w_MOVE)] []) _
    refine XS.iconst X13.here hx rfl (hb hby d_prog_17_method_6_18) ?_
    show own_S p e below T13 (mkF m 19 #[.val (.ref w_MOVE)] [(.int (0 : Int32))]) _
    exact retN X13 hx (t := .boolean) hret (by simp) (hb hby d_prog_17_method_6_19) hr
  · show Qrm11 Z w_DOWN w_UP w_MOVE h0 _ T13.heap _
    rw [e13]
    exact ⟨rfl, N0, rfl⟩
def Qrm0_2 (Z : State) (w_DOWN : Addr) (w_UP : Addr) (w_MOVE : Addr) (p1 : Int32) (h0 : Heap) (v : Option Value) (h : Heap) (L : List Loc) : Prop := v = some (.int 1) ∧ Fr Z.heap.size L
set_option maxRecDepth 65536 in
set_option maxHeartbeats 40000000 in
theorem rm0_2 (l : Launch) (Z : State) (a0 : Array Value) (hw : ∀ d ∈ tables_1, d.before a0 Z = true) (ws : List Jvm.Cond) (w_DOWN : Addr) (w_UP : Addr) (w_MOVE : Addr) (p1 : Int32) (h0 : Heap) (Z0 : Ext Z.heap h0) (S_w_MOVE : Sta Z Z.heap "com/example/fingerwork/fingerwork/PointerAction" "MOVE" "Lcom/example/fingerwork/fingerwork/PointerAction;" (.ref w_MOVE)) (E_w_MOVE : Exa Z Z.heap w_MOVE "com/example/fingerwork/fingerwork/PointerAction") (S_w_DOWN : Sta Z Z.heap "com/example/fingerwork/fingerwork/PointerAction" "DOWN" "Lcom/example/fingerwork/fingerwork/PointerAction;" (.ref w_DOWN)) (S_w_UP : Sta Z Z.heap "com/example/fingerwork/fingerwork/PointerAction" "UP" "Lcom/example/fingerwork/fingerwork/PointerAction;" (.ref w_UP)) (hc5 : ((p1 &&& (2147483647 : Int32)) % (6 : Int32)) = (2 : Int32)) (hc6 : ¬ (w_MOVE = w_DOWN)) (hc7 : ¬ (w_MOVE = w_UP)) :
    own_met l x code maxLocals ret ws room_1 Z #[(.int p1)] h0 (Qrm0_2 Z w_DOWN w_UP w_MOVE p1 h0) := by
  refine own_start (plainFor_of_name pn_1) (fun m => ef_code_I m p1) ?_
  intro p e s m below meth c s₁ hx hby hml hown hnm X0 hZ e0 hret hlk
  have N0 := Fr.nil Z.heap.size
  obtain ⟨T10, X10, e10, st10⟩ := getS2 X0 hx hZ hown (host := "") (Or.inl (own_w hw 14 rfl)) Via.refl e0 (S_w_MOVE.ext Z0) (g := (mkF m 40 #[.val (.int p1), .val (.int (2 : Int32)), .unset, .unset] [])) rfl (hb hby at_40)
  obtain ⟨_, T14, Lc14, X14, hQ14, st14⟩ := own_virtual (y := y_0) X10 hx hZ hown (own_w hw 4 rfl) (own_w hw 5 rfl) (own_w hw 7 rfl) (own_w hw 6 rfl) (own_w hw 2 rfl) (own_w hw 8 rfl) (by decide) (rm11 l Z a0 hw [] w_DOWN w_UP w_MOVE h0 Z0 S_w_DOWN S_w_UP hc6 hc7) (by decide) (by decide) e10 (E_w_MOVE.ext Z0) (g := (mkF m 84 #[.val (.int p1), .val (.int (2 : Int32)), .val (.ref w_MOVE), .val (.int (0 : Int32))] [(.ref w_MOVE)])) rfl (by rw [hml]; rfl) (argsL := []) (rest := []) (lenOf pd_0 rfl) rfl rfl (W := 0) (by show 2 * 0 + _ ≤ _; exact Nat.le_of_eq rfl) (hb hby at_84) (by decide) (by decide)
  obtain ⟨rfl, N14q, e14⟩ := hQ14
  have N14 := Fr.app N0 N14q
  obtain ⟨fs, hr, hrun, hended, hW, hsame⟩ := X14.leave (v := some (.int (1 : Int32))) (fun h => by rw [hret] at h; cases h) hlk
  refine ⟨_, _, ?_, hrun, hended, _, _, rfl, ?_, ⟨_, rfl⟩, hW, hsame.mono (by decide) (by decide)⟩
  · show own_S p e below s₁ (mkF m 0 #[.val (.int p1), .unset, .unset, .unset] []) _
    refine XS.iloadN X0.here hx rfl (hb hby at_0) rfl ?_
    show own_S p e below s₁ (mkF m 1 #[.val (.int p1), .unset, .unset, .unset] [(.int p1)]) _
    refine X0.ldcInt hx hown (mvT hZ (own_w hw 0 rfl)) (g := (mkF m 1 #[.val (.int p1), .unset, .unset, .unset] [(.int p1)])) rfl (hb hby at_1) _ ?_
    show own_S p e below s₁ (mkF m 3 #[.val (.int p1), .unset, .unset, .unset] [(.int (2147483647 : Int32)), (.int p1)]) _
    refine XS.iand X0.here hx rfl (hb hby at_3) rfl ?_
    show own_S p e below s₁ (mkF m 4 #[.val (.int p1), .unset, .unset, .unset] [(.int (p1 &&& (2147483647 : Int32)))]) _
    refine XS.bipush X0.here hx rfl (hb hby at_4) ?_
    show own_S p e below s₁ (mkF m 6 #[.val (.int p1), .unset, .unset, .unset] [(.int (6 : Int32)), (.int (p1 &&& (2147483647 : Int32)))]) _
    refine iremM X0 hx rfl (hb hby at_6) rfl (by decide) ?_
    show own_S p e below s₁ (mkF m 7 #[.val (.int p1), .unset, .unset, .unset] [(.int ((p1 &&& (2147483647 : Int32)) % (6 : Int32)))]) _
    rw [hc5]
    show own_S p e below s₁ (mkF m 7 #[.val (.int p1), .unset, .unset, .unset] [(.int (2 : Int32))]) _
    refine XS.istoreN X0.here hx rfl (hb hby at_7) rfl (l' := #[.val (.int p1), .val (.int (2 : Int32)), .unset, .unset]) rfl ?_
    show own_S p e below s₁ (mkF m 8 #[.val (.int p1), .val (.int (2 : Int32)), .unset, .unset] []) _
    refine XS.iloadN X0.here hx rfl (hb hby at_8) rfl ?_
    show own_S p e below s₁ (mkF m 9 #[.val (.int p1), .val (.int (2 : Int32)), .unset, .unset] [(.int (2 : Int32))]) _
    refine XS.ifYes X0.here hx rfl (pc0 := 9) (pc' := 21) rfl (hb hby at_9) rfl ((if0 _ _).trans (feq (by decide : ¬ ((2 : Int32) = (0 : Int32)))).2) (by decide) (by decide) ?_
    show own_S p e below s₁ (mkF m 21 #[.val (.int p1), .val (.int (2 : Int32)), .unset, .unset] []) _
    refine XS.iloadN X0.here hx rfl (hb hby at_21) rfl ?_
    show own_S p e below s₁ (mkF m 22 #[.val (.int p1), .val (.int (2 : Int32)), .unset, .unset] [(.int (2 : Int32))]) _
    refine XS.iconst X0.here hx rfl (hb hby at_22) ?_
    show own_S p e below s₁ (mkF m 23 #[.val (.int p1), .val (.int (2 : Int32)), .unset, .unset] [(.int (1 : Int32)), (.int (2 : Int32))]) _
    refine XS.icmpYes X0.here hx rfl (pc0 := 23) (pc' := 35) rfl (hb hby at_23) rfl (feq (by decide : ¬ ((2 : Int32) = (1 : Int32)))).2 (by decide) (by decide) ?_
    show own_S p e below s₁ (mkF m 35 #[.val (.int p1), .val (.int (2 : Int32)), .unset, .unset] []) _
    refine XS.iloadN X0.here hx rfl (hb hby at_35) rfl ?_
    show own_S p e below s₁ (mkF m 36 #[.val (.int p1), .val (.int (2 : Int32)), .unset, .unset] [(.int (2 : Int32))]) _
    refine XS.iconst X0.here hx rfl (hb hby at_36) ?_
    show own_S p e below s₁ (mkF m 37 #[.val (.int p1), .val (.int (2 : Int32)), .unset, .unset] [(.int (2 : Int32)), (.int (2 : Int32))]) _
    refine XS.icmpNo X0.here hx rfl (hb hby at_37) rfl (teq (rfl : (2 : Int32) = (2 : Int32))).2 ?_
    show own_S p e below s₁ (mkF m 40 #[.val (.int p1), .val (.int (2 : Int32)), .unset, .unset] []) _
    refine st10 _ ?_
    show own_S p e below T10 (mkF m 43 #[.val (.int p1), .val (.int (2 : Int32)), .unset, .unset] [(.ref w_MOVE)]) _
    refine XS.astoreN X10.here hx rfl (hb hby at_43) rfl rfl (l' := #[.val (.int p1), .val (.int (2 : Int32)), .val (.ref w_MOVE), .unset]) rfl ?_
    show own_S p e below T10 (mkF m 44 #[.val (.int p1), .val (.int (2 : Int32)), .val (.ref w_MOVE), .unset] []) _
    refine XS.iconst X10.here hx rfl (hb hby at_44) ?_
    show own_S p e below T10 (mkF m 45 #[.val (.int p1), .val (.int (2 : Int32)), .val (.ref w_MOVE), .unset] [(.int (0 : Int32))]) _
    refine XS.istoreN X10.here hx rfl (hb hby at_45) rfl (l' := #[.val (.int p1), .val (.int (2 : Int32)), .val (.ref w_MOVE), .val (.int (0 : Int32))]) rfl ?_
    show own_S p e below T10 (mkF m 46 #[.val (.int p1), .val (.int (2 : Int32)), .val (.ref w_MOVE), .val (.int (0 : Int32))] []) _
    refine XS.goto X10.here hx rfl (pc0 := 46) (pc' := 83) rfl (hb hby at_46) (by decide) (by decide) ?_
    show own_S p e below T10 (mkF m 83 #[.val (.int p1), .val (.int (2 : Int32)), .val (.ref w_MOVE), .val (.int (0 : Int32))] []) _
    refine XS.aloadN X10.here hx rfl (hb hby at_83) rfl rfl ?_
    show own_S p e below T10 (mkF m 84 #[.val (.int p1), .val (.int (2 : Int32)), .val (.ref w_MOVE), .val (.int (0 : Int32))] [(.ref w_MOVE)]) _
    refine st14 _ ?_
    show own_S p e below T14 (mkF m 87 #[.val (.int p1), .val (.int (2 : Int32)), .val (.ref w_MOVE), .val (.int (0 : Int32))] [(.int (0 : Int32))]) _
    refine XS.iloadN X14.here hx rfl (hb hby at_87) rfl ?_
    show own_S p e below T14 (mkF m 88 #[.val (.int p1), .val (.int (2 : Int32)), .val (.ref w_MOVE), .val (.int (0 : Int32))] [(.int (0 : Int32)), (.int (0 : Int32))]) _
    refine XS.icmpNo X14.here hx rfl (hb hby at_88) rfl (teq (rfl : (0 : Int32) = (0 : Int32))).2 ?_
    show own_S p e below T14 (mkF m 91 #[.val (.int p1), .val (.int (2 : Int32)), .val (.ref w_MOVE), .val (.int (0 : Int32))] []) _
    refine XS.iconst X14.here hx rfl (hb hby at_91) ?_
    show own_S p e below T14 (mkF m 92 #[.val (.int p1), .val (.int (2 : Int32)), .val (.ref w_MOVE), .val (.int (0 : Int32))] [(.int (1 : Int32))]) _
    refine XS.goto X14.here hx rfl (pc0 := 92) (pc' := 96) rfl (hb hby at_92) (by decide) (by decide) ?_
    show own_S p e below T14 (mkF m 96 #[.val (.int p1), .val (.int (2 : Int32)), .val (.ref w_MOVE), .val (.int (0 : Int32))] [(.int (1 : Int32))]) _
    exact retN X14 hx (t := .boolean) hret (by simp) (hb hby at_96) hr
  · show Qrm0_2 Z w_DOWN w_UP w_MOVE p1 h0 _ T14.heap _
    exact ⟨rfl, N14⟩
def Qrm16 (Z : State) (w_DOWN : Addr) (w_POINTER_UP : Addr) (w_UP : Addr) (h0 : Heap) (v : Option Value) (h : Heap) (L : List Loc) : Prop := v = some (.int (0 : Int32)) ∧ Fr Z.heap.size L ∧ h = h0
set_option maxRecDepth 65536 in
set_option maxHeartbeats 40000000 in
theorem rm16 (l : Launch) (Z : State) (a0 : Array Value) (hw : ∀ d ∈ tables_1, d.before a0 Z = true) (ws : List Jvm.Cond) (w_DOWN : Addr) (w_POINTER_UP : Addr) (w_UP : Addr) (h0 : Heap) (Z0 : Ext Z.heap h0) (S_w_DOWN : Sta Z Z.heap "com/example/fingerwork/fingerwork/PointerAction" "DOWN" "Lcom/example/fingerwork/fingerwork/PointerAction;" (.ref w_DOWN)) (S_w_UP : Sta Z Z.heap "com/example/fingerwork/fingerwork/PointerAction" "UP" "Lcom/example/fingerwork/fingerwork/PointerAction;" (.ref w_UP)) (hc9 : ¬ (w_POINTER_UP = w_DOWN)) (hc10 : ¬ (w_POINTER_UP = w_UP)) :
    own_met l y_0 prog_17_method_6_code 1 (some .boolean) ws ({ frames := 0, cells := 0, slots := 0, locals := 0 } : Room) Z #[(.ref w_POINTER_UP)] h0 (Qrm16 Z w_DOWN w_POINTER_UP w_UP h0) := by
  refine own_start (plainFor_of_name pn_0) (fun m => ef_prog_17_method_6_R m w_POINTER_UP) ?_
  intro p e s m below meth c s₁ hx hby hml hown hnm X0 hZ e0 hret hlk
  have N0 := Fr.nil Z.heap.size
  obtain ⟨T17, X17, e17, st17⟩ := getS2 X0 hx hZ hown (host := "") (Or.inl (own_w hw 9 rfl)) Via.refl e0 (S_w_DOWN.ext Z0) (g := (mkF m 1 #[.val (.ref w_POINTER_UP)] [(.ref w_POINTER_UP)])) rfl (hb hby d_prog_17_method_6_1)
  obtain ⟨T18, X18, e18, st18⟩ := getS2 X17 hx hZ hown (host := "") (Or.inl (own_w hw 12 rfl)) Via.refl e17 (S_w_UP.ext Z0) (g := (mkF m 8 #[.val (.ref w_POINTER_UP)] [(.ref w_POINTER_UP)])) rfl (hb hby d_prog_17_method_6_8)
  obtain ⟨fs, hr, hrun, hended, hW, hsame⟩ := X18.leave (v := some (.int (0 : Int32))) (fun h => by rw [hret] at h; cases h) hlk
  refine ⟨_, _, ?_, hrun, hended, _, _, rfl, ?_, ⟨_, rfl⟩, hW, hsame.mono (by decide) (by decide)⟩
  · show own_S p e below s₁ (mkF m 0 #[.val (.ref w_POINTER_UP)] []) _
    refine XS.aloadN X0.here hx rfl (hb hby d_prog_17_method_6_0) rfl rfl ?_
    show own_S p e below s₁ (mkF m 1 #[.val (.ref w_POINTER_UP)] [(.ref w_POINTER_UP)]) _
    refine st17 _ ?_
    show own_S p e below T17 (mkF m 4 #[.val (.ref w_POINTER_UP)] [(.ref w_DOWN), (.ref w_POINTER_UP)]) _
    refine Jvm.RoadKit.acmp (g := (mkF m 4 #[.val (.ref w_POINTER_UP)] [(.ref w_DOWN), (.ref w_POINTER_UP)])) X17 hx rfl rfl rfl (pc0 := 4) (pc' := 7) (same := false) rfl (hb hby d_prog_17_method_6_4) rfl (decide_eq_false fun q => hc9 (Value.ref.inj q)) (by decide) (by decide) ?_
    show own_S p e below T17 (mkF m 7 #[.val (.ref w_POINTER_UP)] []) _
    refine XS.aloadN X17.here hx rfl (hb hby d_prog_17_method_6_7) rfl rfl ?_
    show own_S p e below T17 (mkF m 8 #[.val (.ref w_POINTER_UP)] [(.ref w_POINTER_UP)]) _
    refine st18 _ ?_
    show own_S p e below T18 (mkF m 11 #[.val (.ref w_POINTER_UP)] [(.ref w_UP), (.ref w_POINTER_UP)]) _
    refine Jvm.RoadKit.acmp (g := (mkF m 11 #[.val (.ref w_POINTER_UP)] [(.ref w_UP), (.ref w_POINTER_UP)])) X18 hx rfl rfl rfl (pc0 := 11) (pc' := 18) (same := false) rfl (hb hby d_prog_17_method_6_11) rfl (decide_eq_false fun q => hc10 (Value.ref.inj q)) (by decide) (by decide) ?_
    show own_S p e below T18 (mkF m 18 #[.val (.ref w_POINTER_UP)] []) _
    refine XS.iconst X18.here hx rfl (hb hby d_prog_17_method_6_18) ?_
    show own_S p e below T18 (mkF m 19 #[.val (.ref w_POINTER_UP)] [(.int (0 : Int32))]) _
    exact retN X18 hx (t := .boolean) hret (by simp) (hb hby d_prog_17_method_6_19) hr
  · show Qrm16 Z w_DOWN w_POINTER_UP w_UP h0 _ T18.heap _
    rw [e18]
    exact ⟨rfl, N0, rfl⟩
def Qrm0_3 (Z : State) (w_DOWN : Addr) (w_POINTER_UP : Addr) (w_UP : Addr) (p1 : Int32) (h0 : Heap) (v : Option Value) (h : Heap) (L : List Loc) : Prop := v = some (.int 1) ∧ Fr Z.heap.size L
set_option maxRecDepth 65536 in
set_option maxHeartbeats 40000000 in
theorem rm0_3 (l : Launch) (Z : State) (a0 : Array Value) (hw : ∀ d ∈ tables_1, d.before a0 Z = true) (ws : List Jvm.Cond) (w_DOWN : Addr) (w_POINTER_UP : Addr) (w_UP : Addr) (p1 : Int32) (h0 : Heap) (Z0 : Ext Z.heap h0) (S_w_POINTER_UP : Sta Z Z.heap "com/example/fingerwork/fingerwork/PointerAction" "POINTER_UP" "Lcom/example/fingerwork/fingerwork/PointerAction;" (.ref w_POINTER_UP)) (E_w_POINTER_UP : Exa Z Z.heap w_POINTER_UP "com/example/fingerwork/fingerwork/PointerAction") (S_w_DOWN : Sta Z Z.heap "com/example/fingerwork/fingerwork/PointerAction" "DOWN" "Lcom/example/fingerwork/fingerwork/PointerAction;" (.ref w_DOWN)) (S_w_UP : Sta Z Z.heap "com/example/fingerwork/fingerwork/PointerAction" "UP" "Lcom/example/fingerwork/fingerwork/PointerAction;" (.ref w_UP)) (hc8 : ((p1 &&& (2147483647 : Int32)) % (6 : Int32)) = (3 : Int32)) (hc9 : ¬ (w_POINTER_UP = w_DOWN)) (hc10 : ¬ (w_POINTER_UP = w_UP)) :
    own_met l x code maxLocals ret ws room_1 Z #[(.int p1)] h0 (Qrm0_3 Z w_DOWN w_POINTER_UP w_UP p1 h0) := by
  refine own_start (plainFor_of_name pn_1) (fun m => ef_code_I m p1) ?_
  intro p e s m below meth c s₁ hx hby hml hown hnm X0 hZ e0 hret hlk
  have N0 := Fr.nil Z.heap.size
  obtain ⟨T15, X15, e15, st15⟩ := getS2 X0 hx hZ hown (host := "") (Or.inl (own_w hw 10 rfl)) Via.refl e0 (S_w_POINTER_UP.ext Z0) (g := (mkF m 54 #[.val (.int p1), .val (.int (3 : Int32)), .unset, .unset] [])) rfl (hb hby at_54)
  obtain ⟨_, T19, Lc19, X19, hQ19, st19⟩ := own_virtual (y := y_0) X15 hx hZ hown (own_w hw 4 rfl) (own_w hw 5 rfl) (own_w hw 7 rfl) (own_w hw 6 rfl) (own_w hw 2 rfl) (own_w hw 8 rfl) (by decide) (rm16 l Z a0 hw [] w_DOWN w_POINTER_UP w_UP h0 Z0 S_w_DOWN S_w_UP hc9 hc10) (by decide) (by decide) e15 (E_w_POINTER_UP.ext Z0) (g := (mkF m 84 #[.val (.int p1), .val (.int (3 : Int32)), .val (.ref w_POINTER_UP), .val (.int (0 : Int32))] [(.ref w_POINTER_UP)])) rfl (by rw [hml]; rfl) (argsL := []) (rest := []) (lenOf pd_0 rfl) rfl rfl (W := 0) (by show 2 * 0 + _ ≤ _; exact Nat.le_of_eq rfl) (hb hby at_84) (by decide) (by decide)
  obtain ⟨rfl, N19q, e19⟩ := hQ19
  have N19 := Fr.app N0 N19q
  obtain ⟨fs, hr, hrun, hended, hW, hsame⟩ := X19.leave (v := some (.int (1 : Int32))) (fun h => by rw [hret] at h; cases h) hlk
  refine ⟨_, _, ?_, hrun, hended, _, _, rfl, ?_, ⟨_, rfl⟩, hW, hsame.mono (by decide) (by decide)⟩
  · show own_S p e below s₁ (mkF m 0 #[.val (.int p1), .unset, .unset, .unset] []) _
    refine XS.iloadN X0.here hx rfl (hb hby at_0) rfl ?_
    show own_S p e below s₁ (mkF m 1 #[.val (.int p1), .unset, .unset, .unset] [(.int p1)]) _
    refine X0.ldcInt hx hown (mvT hZ (own_w hw 0 rfl)) (g := (mkF m 1 #[.val (.int p1), .unset, .unset, .unset] [(.int p1)])) rfl (hb hby at_1) _ ?_
    show own_S p e below s₁ (mkF m 3 #[.val (.int p1), .unset, .unset, .unset] [(.int (2147483647 : Int32)), (.int p1)]) _
    refine XS.iand X0.here hx rfl (hb hby at_3) rfl ?_
    show own_S p e below s₁ (mkF m 4 #[.val (.int p1), .unset, .unset, .unset] [(.int (p1 &&& (2147483647 : Int32)))]) _
    refine XS.bipush X0.here hx rfl (hb hby at_4) ?_
    show own_S p e below s₁ (mkF m 6 #[.val (.int p1), .unset, .unset, .unset] [(.int (6 : Int32)), (.int (p1 &&& (2147483647 : Int32)))]) _
    refine iremM X0 hx rfl (hb hby at_6) rfl (by decide) ?_
    show own_S p e below s₁ (mkF m 7 #[.val (.int p1), .unset, .unset, .unset] [(.int ((p1 &&& (2147483647 : Int32)) % (6 : Int32)))]) _
    rw [hc8]
    show own_S p e below s₁ (mkF m 7 #[.val (.int p1), .unset, .unset, .unset] [(.int (3 : Int32))]) _
    refine XS.istoreN X0.here hx rfl (hb hby at_7) rfl (l' := #[.val (.int p1), .val (.int (3 : Int32)), .unset, .unset]) rfl ?_
    show own_S p e below s₁ (mkF m 8 #[.val (.int p1), .val (.int (3 : Int32)), .unset, .unset] []) _
    refine XS.iloadN X0.here hx rfl (hb hby at_8) rfl ?_
    show own_S p e below s₁ (mkF m 9 #[.val (.int p1), .val (.int (3 : Int32)), .unset, .unset] [(.int (3 : Int32))]) _
    refine XS.ifYes X0.here hx rfl (pc0 := 9) (pc' := 21) rfl (hb hby at_9) rfl ((if0 _ _).trans (feq (by decide : ¬ ((3 : Int32) = (0 : Int32)))).2) (by decide) (by decide) ?_
    show own_S p e below s₁ (mkF m 21 #[.val (.int p1), .val (.int (3 : Int32)), .unset, .unset] []) _
    refine XS.iloadN X0.here hx rfl (hb hby at_21) rfl ?_
    show own_S p e below s₁ (mkF m 22 #[.val (.int p1), .val (.int (3 : Int32)), .unset, .unset] [(.int (3 : Int32))]) _
    refine XS.iconst X0.here hx rfl (hb hby at_22) ?_
    show own_S p e below s₁ (mkF m 23 #[.val (.int p1), .val (.int (3 : Int32)), .unset, .unset] [(.int (1 : Int32)), (.int (3 : Int32))]) _
    refine XS.icmpYes X0.here hx rfl (pc0 := 23) (pc' := 35) rfl (hb hby at_23) rfl (feq (by decide : ¬ ((3 : Int32) = (1 : Int32)))).2 (by decide) (by decide) ?_
    show own_S p e below s₁ (mkF m 35 #[.val (.int p1), .val (.int (3 : Int32)), .unset, .unset] []) _
    refine XS.iloadN X0.here hx rfl (hb hby at_35) rfl ?_
    show own_S p e below s₁ (mkF m 36 #[.val (.int p1), .val (.int (3 : Int32)), .unset, .unset] [(.int (3 : Int32))]) _
    refine XS.iconst X0.here hx rfl (hb hby at_36) ?_
    show own_S p e below s₁ (mkF m 37 #[.val (.int p1), .val (.int (3 : Int32)), .unset, .unset] [(.int (2 : Int32)), (.int (3 : Int32))]) _
    refine XS.icmpYes X0.here hx rfl (pc0 := 37) (pc' := 49) rfl (hb hby at_37) rfl (feq (by decide : ¬ ((3 : Int32) = (2 : Int32)))).2 (by decide) (by decide) ?_
    show own_S p e below s₁ (mkF m 49 #[.val (.int p1), .val (.int (3 : Int32)), .unset, .unset] []) _
    refine XS.iloadN X0.here hx rfl (hb hby at_49) rfl ?_
    show own_S p e below s₁ (mkF m 50 #[.val (.int p1), .val (.int (3 : Int32)), .unset, .unset] [(.int (3 : Int32))]) _
    refine XS.iconst X0.here hx rfl (hb hby at_50) ?_
    show own_S p e below s₁ (mkF m 51 #[.val (.int p1), .val (.int (3 : Int32)), .unset, .unset] [(.int (3 : Int32)), (.int (3 : Int32))]) _
    refine XS.icmpNo X0.here hx rfl (hb hby at_51) rfl (teq (rfl : (3 : Int32) = (3 : Int32))).2 ?_
    show own_S p e below s₁ (mkF m 54 #[.val (.int p1), .val (.int (3 : Int32)), .unset, .unset] []) _
    refine st15 _ ?_
    show own_S p e below T15 (mkF m 57 #[.val (.int p1), .val (.int (3 : Int32)), .unset, .unset] [(.ref w_POINTER_UP)]) _
    refine XS.astoreN X15.here hx rfl (hb hby at_57) rfl rfl (l' := #[.val (.int p1), .val (.int (3 : Int32)), .val (.ref w_POINTER_UP), .unset]) rfl ?_
    show own_S p e below T15 (mkF m 58 #[.val (.int p1), .val (.int (3 : Int32)), .val (.ref w_POINTER_UP), .unset] []) _
    refine XS.iconst X15.here hx rfl (hb hby at_58) ?_
    show own_S p e below T15 (mkF m 59 #[.val (.int p1), .val (.int (3 : Int32)), .val (.ref w_POINTER_UP), .unset] [(.int (0 : Int32))]) _
    refine XS.istoreN X15.here hx rfl (hb hby at_59) rfl (l' := #[.val (.int p1), .val (.int (3 : Int32)), .val (.ref w_POINTER_UP), .val (.int (0 : Int32))]) rfl ?_
    show own_S p e below T15 (mkF m 60 #[.val (.int p1), .val (.int (3 : Int32)), .val (.ref w_POINTER_UP), .val (.int (0 : Int32))] []) _
    refine XS.goto X15.here hx rfl (pc0 := 60) (pc' := 83) rfl (hb hby at_60) (by decide) (by decide) ?_
    show own_S p e below T15 (mkF m 83 #[.val (.int p1), .val (.int (3 : Int32)), .val (.ref w_POINTER_UP), .val (.int (0 : Int32))] []) _
    refine XS.aloadN X15.here hx rfl (hb hby at_83) rfl rfl ?_
    show own_S p e below T15 (mkF m 84 #[.val (.int p1), .val (.int (3 : Int32)), .val (.ref w_POINTER_UP), .val (.int (0 : Int32))] [(.ref w_POINTER_UP)]) _
    refine st19 _ ?_
    show own_S p e below T19 (mkF m 87 #[.val (.int p1), .val (.int (3 : Int32)), .val (.ref w_POINTER_UP), .val (.int (0 : Int32))] [(.int (0 : Int32))]) _
    refine XS.iloadN X19.here hx rfl (hb hby at_87) rfl ?_
    show own_S p e below T19 (mkF m 88 #[.val (.int p1), .val (.int (3 : Int32)), .val (.ref w_POINTER_UP), .val (.int (0 : Int32))] [(.int (0 : Int32)), (.int (0 : Int32))]) _
    refine XS.icmpNo X19.here hx rfl (hb hby at_88) rfl (teq (rfl : (0 : Int32) = (0 : Int32))).2 ?_
    show own_S p e below T19 (mkF m 91 #[.val (.int p1), .val (.int (3 : Int32)), .val (.ref w_POINTER_UP), .val (.int (0 : Int32))] []) _
    refine XS.iconst X19.here hx rfl (hb hby at_91) ?_
    show own_S p e below T19 (mkF m 92 #[.val (.int p1), .val (.int (3 : Int32)), .val (.ref w_POINTER_UP), .val (.int (0 : Int32))] [(.int (1 : Int32))]) _
    refine XS.goto X19.here hx rfl (pc0 := 92) (pc' := 96) rfl (hb hby at_92) (by decide) (by decide) ?_
    show own_S p e below T19 (mkF m 96 #[.val (.int p1), .val (.int (3 : Int32)), .val (.ref w_POINTER_UP), .val (.int (0 : Int32))] [(.int (1 : Int32))]) _
    exact retN X19 hx (t := .boolean) hret (by simp) (hb hby at_96) hr
  · show Qrm0_3 Z w_DOWN w_POINTER_UP w_UP p1 h0 _ T19.heap _
    exact ⟨rfl, N19⟩
def Qrm21 (Z : State) (w_DOWN : Addr) (w_UP : Addr) (h0 : Heap) (v : Option Value) (h : Heap) (L : List Loc) : Prop := v = some (.int (1 : Int32)) ∧ Fr Z.heap.size L ∧ h = h0
set_option maxRecDepth 65536 in
set_option maxHeartbeats 40000000 in
theorem rm21 (l : Launch) (Z : State) (a0 : Array Value) (hw : ∀ d ∈ tables_1, d.before a0 Z = true) (ws : List Jvm.Cond) (w_DOWN : Addr) (w_UP : Addr) (h0 : Heap) (Z0 : Ext Z.heap h0) (S_w_DOWN : Sta Z Z.heap "com/example/fingerwork/fingerwork/PointerAction" "DOWN" "Lcom/example/fingerwork/fingerwork/PointerAction;" (.ref w_DOWN)) (S_w_UP : Sta Z Z.heap "com/example/fingerwork/fingerwork/PointerAction" "UP" "Lcom/example/fingerwork/fingerwork/PointerAction;" (.ref w_UP)) (hc12 : ¬ (w_UP = w_DOWN)) :
    own_met l y_0 prog_17_method_6_code 1 (some .boolean) ws ({ frames := 0, cells := 0, slots := 0, locals := 0 } : Room) Z #[(.ref w_UP)] h0 (Qrm21 Z w_DOWN w_UP h0) := by
  refine own_start (plainFor_of_name pn_0) (fun m => ef_prog_17_method_6_R m w_UP) ?_
  intro p e s m below meth c s₁ hx hby hml hown hnm X0 hZ e0 hret hlk
  have N0 := Fr.nil Z.heap.size
  obtain ⟨T22, X22, e22, st22⟩ := getS2 X0 hx hZ hown (host := "") (Or.inl (own_w hw 9 rfl)) Via.refl e0 (S_w_DOWN.ext Z0) (g := (mkF m 1 #[.val (.ref w_UP)] [(.ref w_UP)])) rfl (hb hby d_prog_17_method_6_1)
  obtain ⟨T23, X23, e23, st23⟩ := getS2 X22 hx hZ hown (host := "") (Or.inl (own_w hw 12 rfl)) Via.refl e22 (S_w_UP.ext Z0) (g := (mkF m 8 #[.val (.ref w_UP)] [(.ref w_UP)])) rfl (hb hby d_prog_17_method_6_8)
  obtain ⟨fs, hr, hrun, hended, hW, hsame⟩ := X23.leave (v := some (.int (1 : Int32))) (fun h => by rw [hret] at h; cases h) hlk
  refine ⟨_, _, ?_, hrun, hended, _, _, rfl, ?_, ⟨_, rfl⟩, hW, hsame.mono (by decide) (by decide)⟩
  · show own_S p e below s₁ (mkF m 0 #[.val (.ref w_UP)] []) _
    refine XS.aloadN X0.here hx rfl (hb hby d_prog_17_method_6_0) rfl rfl ?_
    show own_S p e below s₁ (mkF m 1 #[.val (.ref w_UP)] [(.ref w_UP)]) _
    refine st22 _ ?_
    show own_S p e below T22 (mkF m 4 #[.val (.ref w_UP)] [(.ref w_DOWN), (.ref w_UP)]) _
    refine Jvm.RoadKit.acmp (g := (mkF m 4 #[.val (.ref w_UP)] [(.ref w_DOWN), (.ref w_UP)])) X22 hx rfl rfl rfl (pc0 := 4) (pc' := 7) (same := false) rfl (hb hby d_prog_17_method_6_4) rfl (decide_eq_false fun q => hc12 (Value.ref.inj q)) (by decide) (by decide) ?_
    show own_S p e below T22 (mkF m 7 #[.val (.ref w_UP)] []) _
    refine XS.aloadN X22.here hx rfl (hb hby d_prog_17_method_6_7) rfl rfl ?_
    show own_S p e below T22 (mkF m 8 #[.val (.ref w_UP)] [(.ref w_UP)]) _
    refine st23 _ ?_
    show own_S p e below T23 (mkF m 11 #[.val (.ref w_UP)] [(.ref w_UP), (.ref w_UP)]) _
    refine Jvm.RoadKit.acmp (g := (mkF m 11 #[.val (.ref w_UP)] [(.ref w_UP), (.ref w_UP)])) X23 hx rfl rfl rfl (pc0 := 11) (pc' := 14) (same := true) rfl (hb hby d_prog_17_method_6_11) rfl (decide_eq_true rfl) (by decide) (by decide) ?_
    show own_S p e below T23 (mkF m 14 #[.val (.ref w_UP)] []) _
    refine XS.iconst X23.here hx rfl (hb hby d_prog_17_method_6_14) ?_
    show own_S p e below T23 (mkF m 15 #[.val (.ref w_UP)] [(.int (1 : Int32))]) _
    refine XS.goto X23.here hx rfl (pc0 := 15) (pc' := 19) rfl (hb hby d_prog_17_method_6_15) (by decide) (by decide) ?_
    show own_S p e below T23 (mkF m 19 #[.val (.ref w_UP)] [(.int (1 : Int32))]) _
    exact retN X23 hx (t := .boolean) hret (by simp) (hb hby d_prog_17_method_6_19) hr
  · show Qrm21 Z w_DOWN w_UP h0 _ T23.heap _
    rw [e23]
    exact ⟨rfl, N0, rfl⟩
def Qrm0_4 (Z : State) (w_DOWN : Addr) (w_UP : Addr) (p1 : Int32) (h0 : Heap) (v : Option Value) (h : Heap) (L : List Loc) : Prop := v = some (.int 1) ∧ Fr Z.heap.size L
set_option maxRecDepth 65536 in
set_option maxHeartbeats 40000000 in
theorem rm0_4 (l : Launch) (Z : State) (a0 : Array Value) (hw : ∀ d ∈ tables_1, d.before a0 Z = true) (ws : List Jvm.Cond) (w_DOWN : Addr) (w_UP : Addr) (p1 : Int32) (h0 : Heap) (Z0 : Ext Z.heap h0) (S_w_UP : Sta Z Z.heap "com/example/fingerwork/fingerwork/PointerAction" "UP" "Lcom/example/fingerwork/fingerwork/PointerAction;" (.ref w_UP)) (E_w_UP : Exa Z Z.heap w_UP "com/example/fingerwork/fingerwork/PointerAction") (S_w_DOWN : Sta Z Z.heap "com/example/fingerwork/fingerwork/PointerAction" "DOWN" "Lcom/example/fingerwork/fingerwork/PointerAction;" (.ref w_DOWN)) (hc11 : ((p1 &&& (2147483647 : Int32)) % (6 : Int32)) = (4 : Int32)) (hc12 : ¬ (w_UP = w_DOWN)) :
    own_met l x code maxLocals ret ws room_1 Z #[(.int p1)] h0 (Qrm0_4 Z w_DOWN w_UP p1 h0) := by
  refine own_start (plainFor_of_name pn_1) (fun m => ef_code_I m p1) ?_
  intro p e s m below meth c s₁ hx hby hml hown hnm X0 hZ e0 hret hlk
  have N0 := Fr.nil Z.heap.size
  obtain ⟨T20, X20, e20, st20⟩ := getS2 X0 hx hZ hown (host := "") (Or.inl (own_w hw 20 rfl)) Via.refl e0 (S_w_UP.ext Z0) (g := (mkF m 68 #[.val (.int p1), .val (.int (4 : Int32)), .unset, .unset] [])) rfl (hb hby at_68)
  obtain ⟨_, T24, Lc24, X24, hQ24, st24⟩ := own_virtual (y := y_0) X20 hx hZ hown (own_w hw 4 rfl) (own_w hw 5 rfl) (own_w hw 7 rfl) (own_w hw 6 rfl) (own_w hw 2 rfl) (own_w hw 8 rfl) (by decide) (rm21 l Z a0 hw [] w_DOWN w_UP h0 Z0 S_w_DOWN S_w_UP hc12) (by decide) (by decide) e20 (E_w_UP.ext Z0) (g := (mkF m 84 #[.val (.int p1), .val (.int (4 : Int32)), .val (.ref w_UP), .val (.int (1 : Int32))] [(.ref w_UP)])) rfl (by rw [hml]; rfl) (argsL := []) (rest := []) (lenOf pd_0 rfl) rfl rfl (W := 0) (by show 2 * 0 + _ ≤ _; exact Nat.le_of_eq rfl) (hb hby at_84) (by decide) (by decide)
  obtain ⟨rfl, N24q, e24⟩ := hQ24
  have N24 := Fr.app N0 N24q
  obtain ⟨fs, hr, hrun, hended, hW, hsame⟩ := X24.leave (v := some (.int (1 : Int32))) (fun h => by rw [hret] at h; cases h) hlk
  refine ⟨_, _, ?_, hrun, hended, _, _, rfl, ?_, ⟨_, rfl⟩, hW, hsame.mono (by decide) (by decide)⟩
  · show own_S p e below s₁ (mkF m 0 #[.val (.int p1), .unset, .unset, .unset] []) _
    refine XS.iloadN X0.here hx rfl (hb hby at_0) rfl ?_
    show own_S p e below s₁ (mkF m 1 #[.val (.int p1), .unset, .unset, .unset] [(.int p1)]) _
    refine X0.ldcInt hx hown (mvT hZ (own_w hw 0 rfl)) (g := (mkF m 1 #[.val (.int p1), .unset, .unset, .unset] [(.int p1)])) rfl (hb hby at_1) _ ?_
    show own_S p e below s₁ (mkF m 3 #[.val (.int p1), .unset, .unset, .unset] [(.int (2147483647 : Int32)), (.int p1)]) _
    refine XS.iand X0.here hx rfl (hb hby at_3) rfl ?_
    show own_S p e below s₁ (mkF m 4 #[.val (.int p1), .unset, .unset, .unset] [(.int (p1 &&& (2147483647 : Int32)))]) _
    refine XS.bipush X0.here hx rfl (hb hby at_4) ?_
    show own_S p e below s₁ (mkF m 6 #[.val (.int p1), .unset, .unset, .unset] [(.int (6 : Int32)), (.int (p1 &&& (2147483647 : Int32)))]) _
    refine iremM X0 hx rfl (hb hby at_6) rfl (by decide) ?_
    show own_S p e below s₁ (mkF m 7 #[.val (.int p1), .unset, .unset, .unset] [(.int ((p1 &&& (2147483647 : Int32)) % (6 : Int32)))]) _
    rw [hc11]
    show own_S p e below s₁ (mkF m 7 #[.val (.int p1), .unset, .unset, .unset] [(.int (4 : Int32))]) _
    refine XS.istoreN X0.here hx rfl (hb hby at_7) rfl (l' := #[.val (.int p1), .val (.int (4 : Int32)), .unset, .unset]) rfl ?_
    show own_S p e below s₁ (mkF m 8 #[.val (.int p1), .val (.int (4 : Int32)), .unset, .unset] []) _
    refine XS.iloadN X0.here hx rfl (hb hby at_8) rfl ?_
    show own_S p e below s₁ (mkF m 9 #[.val (.int p1), .val (.int (4 : Int32)), .unset, .unset] [(.int (4 : Int32))]) _
    refine XS.ifYes X0.here hx rfl (pc0 := 9) (pc' := 21) rfl (hb hby at_9) rfl ((if0 _ _).trans (feq (by decide : ¬ ((4 : Int32) = (0 : Int32)))).2) (by decide) (by decide) ?_
    show own_S p e below s₁ (mkF m 21 #[.val (.int p1), .val (.int (4 : Int32)), .unset, .unset] []) _
    refine XS.iloadN X0.here hx rfl (hb hby at_21) rfl ?_
    show own_S p e below s₁ (mkF m 22 #[.val (.int p1), .val (.int (4 : Int32)), .unset, .unset] [(.int (4 : Int32))]) _
    refine XS.iconst X0.here hx rfl (hb hby at_22) ?_
    show own_S p e below s₁ (mkF m 23 #[.val (.int p1), .val (.int (4 : Int32)), .unset, .unset] [(.int (1 : Int32)), (.int (4 : Int32))]) _
    refine XS.icmpYes X0.here hx rfl (pc0 := 23) (pc' := 35) rfl (hb hby at_23) rfl (feq (by decide : ¬ ((4 : Int32) = (1 : Int32)))).2 (by decide) (by decide) ?_
    show own_S p e below s₁ (mkF m 35 #[.val (.int p1), .val (.int (4 : Int32)), .unset, .unset] []) _
    refine XS.iloadN X0.here hx rfl (hb hby at_35) rfl ?_
    show own_S p e below s₁ (mkF m 36 #[.val (.int p1), .val (.int (4 : Int32)), .unset, .unset] [(.int (4 : Int32))]) _
    refine XS.iconst X0.here hx rfl (hb hby at_36) ?_
    show own_S p e below s₁ (mkF m 37 #[.val (.int p1), .val (.int (4 : Int32)), .unset, .unset] [(.int (2 : Int32)), (.int (4 : Int32))]) _
    refine XS.icmpYes X0.here hx rfl (pc0 := 37) (pc' := 49) rfl (hb hby at_37) rfl (feq (by decide : ¬ ((4 : Int32) = (2 : Int32)))).2 (by decide) (by decide) ?_
    show own_S p e below s₁ (mkF m 49 #[.val (.int p1), .val (.int (4 : Int32)), .unset, .unset] []) _
    refine XS.iloadN X0.here hx rfl (hb hby at_49) rfl ?_
    show own_S p e below s₁ (mkF m 50 #[.val (.int p1), .val (.int (4 : Int32)), .unset, .unset] [(.int (4 : Int32))]) _
    refine XS.iconst X0.here hx rfl (hb hby at_50) ?_
    show own_S p e below s₁ (mkF m 51 #[.val (.int p1), .val (.int (4 : Int32)), .unset, .unset] [(.int (3 : Int32)), (.int (4 : Int32))]) _
    refine XS.icmpYes X0.here hx rfl (pc0 := 51) (pc' := 63) rfl (hb hby at_51) rfl (feq (by decide : ¬ ((4 : Int32) = (3 : Int32)))).2 (by decide) (by decide) ?_
    show own_S p e below s₁ (mkF m 63 #[.val (.int p1), .val (.int (4 : Int32)), .unset, .unset] []) _
    refine XS.iloadN X0.here hx rfl (hb hby at_63) rfl ?_
    show own_S p e below s₁ (mkF m 64 #[.val (.int p1), .val (.int (4 : Int32)), .unset, .unset] [(.int (4 : Int32))]) _
    refine XS.iconst X0.here hx rfl (hb hby at_64) ?_
    show own_S p e below s₁ (mkF m 65 #[.val (.int p1), .val (.int (4 : Int32)), .unset, .unset] [(.int (4 : Int32)), (.int (4 : Int32))]) _
    refine XS.icmpNo X0.here hx rfl (hb hby at_65) rfl (teq (rfl : (4 : Int32) = (4 : Int32))).2 ?_
    show own_S p e below s₁ (mkF m 68 #[.val (.int p1), .val (.int (4 : Int32)), .unset, .unset] []) _
    refine st20 _ ?_
    show own_S p e below T20 (mkF m 71 #[.val (.int p1), .val (.int (4 : Int32)), .unset, .unset] [(.ref w_UP)]) _
    refine XS.astoreN X20.here hx rfl (hb hby at_71) rfl rfl (l' := #[.val (.int p1), .val (.int (4 : Int32)), .val (.ref w_UP), .unset]) rfl ?_
    show own_S p e below T20 (mkF m 72 #[.val (.int p1), .val (.int (4 : Int32)), .val (.ref w_UP), .unset] []) _
    refine XS.iconst X20.here hx rfl (hb hby at_72) ?_
    show own_S p e below T20 (mkF m 73 #[.val (.int p1), .val (.int (4 : Int32)), .val (.ref w_UP), .unset] [(.int (1 : Int32))]) _
    refine XS.istoreN X20.here hx rfl (hb hby at_73) rfl (l' := #[.val (.int p1), .val (.int (4 : Int32)), .val (.ref w_UP), .val (.int (1 : Int32))]) rfl ?_
    show own_S p e below T20 (mkF m 74 #[.val (.int p1), .val (.int (4 : Int32)), .val (.ref w_UP), .val (.int (1 : Int32))] []) _
    refine XS.goto X20.here hx rfl (pc0 := 74) (pc' := 83) rfl (hb hby at_74) (by decide) (by decide) ?_
    show own_S p e below T20 (mkF m 83 #[.val (.int p1), .val (.int (4 : Int32)), .val (.ref w_UP), .val (.int (1 : Int32))] []) _
    refine XS.aloadN X20.here hx rfl (hb hby at_83) rfl rfl ?_
    show own_S p e below T20 (mkF m 84 #[.val (.int p1), .val (.int (4 : Int32)), .val (.ref w_UP), .val (.int (1 : Int32))] [(.ref w_UP)]) _
    refine st24 _ ?_
    show own_S p e below T24 (mkF m 87 #[.val (.int p1), .val (.int (4 : Int32)), .val (.ref w_UP), .val (.int (1 : Int32))] [(.int (1 : Int32))]) _
    refine XS.iloadN X24.here hx rfl (hb hby at_87) rfl ?_
    show own_S p e below T24 (mkF m 88 #[.val (.int p1), .val (.int (4 : Int32)), .val (.ref w_UP), .val (.int (1 : Int32))] [(.int (1 : Int32)), (.int (1 : Int32))]) _
    refine XS.icmpNo X24.here hx rfl (hb hby at_88) rfl (teq (rfl : (1 : Int32) = (1 : Int32))).2 ?_
    show own_S p e below T24 (mkF m 91 #[.val (.int p1), .val (.int (4 : Int32)), .val (.ref w_UP), .val (.int (1 : Int32))] []) _
    refine XS.iconst X24.here hx rfl (hb hby at_91) ?_
    show own_S p e below T24 (mkF m 92 #[.val (.int p1), .val (.int (4 : Int32)), .val (.ref w_UP), .val (.int (1 : Int32))] [(.int (1 : Int32))]) _
    refine XS.goto X24.here hx rfl (pc0 := 92) (pc' := 96) rfl (hb hby at_92) (by decide) (by decide) ?_
    show own_S p e below T24 (mkF m 96 #[.val (.int p1), .val (.int (4 : Int32)), .val (.ref w_UP), .val (.int (1 : Int32))] [(.int (1 : Int32))]) _
    exact retN X24 hx (t := .boolean) hret (by simp) (hb hby at_96) hr
  · show Qrm0_4 Z w_DOWN w_UP p1 h0 _ T24.heap _
    exact ⟨rfl, N24⟩
def Qrm26 (Z : State) (w_DOWN : Addr) (w_UP : Addr) (w_CANCEL : Addr) (h0 : Heap) (v : Option Value) (h : Heap) (L : List Loc) : Prop := v = some (.int (0 : Int32)) ∧ Fr Z.heap.size L ∧ h = h0
set_option maxRecDepth 65536 in
set_option maxHeartbeats 40000000 in
theorem rm26 (l : Launch) (Z : State) (a0 : Array Value) (hw : ∀ d ∈ tables_1, d.before a0 Z = true) (ws : List Jvm.Cond) (w_DOWN : Addr) (w_UP : Addr) (w_CANCEL : Addr) (h0 : Heap) (Z0 : Ext Z.heap h0) (S_w_DOWN : Sta Z Z.heap "com/example/fingerwork/fingerwork/PointerAction" "DOWN" "Lcom/example/fingerwork/fingerwork/PointerAction;" (.ref w_DOWN)) (S_w_UP : Sta Z Z.heap "com/example/fingerwork/fingerwork/PointerAction" "UP" "Lcom/example/fingerwork/fingerwork/PointerAction;" (.ref w_UP)) (hc14 : ¬ (w_CANCEL = w_DOWN)) (hc15 : ¬ (w_CANCEL = w_UP)) :
    own_met l y_0 prog_17_method_6_code 1 (some .boolean) ws ({ frames := 0, cells := 0, slots := 0, locals := 0 } : Room) Z #[(.ref w_CANCEL)] h0 (Qrm26 Z w_DOWN w_UP w_CANCEL h0) := by
  refine own_start (plainFor_of_name pn_0) (fun m => ef_prog_17_method_6_R m w_CANCEL) ?_
  intro p e s m below meth c s₁ hx hby hml hown hnm X0 hZ e0 hret hlk
  have N0 := Fr.nil Z.heap.size
  obtain ⟨T27, X27, e27, st27⟩ := getS2 X0 hx hZ hown (host := "") (Or.inl (own_w hw 9 rfl)) Via.refl e0 (S_w_DOWN.ext Z0) (g := (mkF m 1 #[.val (.ref w_CANCEL)] [(.ref w_CANCEL)])) rfl (hb hby d_prog_17_method_6_1)
  obtain ⟨T28, X28, e28, st28⟩ := getS2 X27 hx hZ hown (host := "") (Or.inl (own_w hw 12 rfl)) Via.refl e27 (S_w_UP.ext Z0) (g := (mkF m 8 #[.val (.ref w_CANCEL)] [(.ref w_CANCEL)])) rfl (hb hby d_prog_17_method_6_8)
  obtain ⟨fs, hr, hrun, hended, hW, hsame⟩ := X28.leave (v := some (.int (0 : Int32))) (fun h => by rw [hret] at h; cases h) hlk
  refine ⟨_, _, ?_, hrun, hended, _, _, rfl, ?_, ⟨_, rfl⟩, hW, hsame.mono (by decide) (by decide)⟩
  · show own_S p e below s₁ (mkF m 0 #[.val (.ref w_CANCEL)] []) _
    refine XS.aloadN X0.here hx rfl (hb hby d_prog_17_method_6_0) rfl rfl ?_
    show own_S p e below s₁ (mkF m 1 #[.val (.ref w_CANCEL)] [(.ref w_CANCEL)]) _
    refine st27 _ ?_
    show own_S p e below T27 (mkF m 4 #[.val (.ref w_CANCEL)] [(.ref w_DOWN), (.ref w_CANCEL)]) _
    refine Jvm.RoadKit.acmp (g := (mkF m 4 #[.val (.ref w_CANCEL)] [(.ref w_DOWN), (.ref w_CANCEL)])) X27 hx rfl rfl rfl (pc0 := 4) (pc' := 7) (same := false) rfl (hb hby d_prog_17_method_6_4) rfl (decide_eq_false fun q => hc14 (Value.ref.inj q)) (by decide) (by decide) ?_
    show own_S p e below T27 (mkF m 7 #[.val (.ref w_CANCEL)] []) _
    refine XS.aloadN X27.here hx rfl (hb hby d_prog_17_method_6_7) rfl rfl ?_
    show own_S p e below T27 (mkF m 8 #[.val (.ref w_CANCEL)] [(.ref w_CANCEL)]) _
    refine st28 _ ?_
    show own_S p e below T28 (mkF m 11 #[.val (.ref w_CANCEL)] [(.ref w_UP), (.ref w_CANCEL)]) _
    refine Jvm.RoadKit.acmp (g := (mkF m 11 #[.val (.ref w_CANCEL)] [(.ref w_UP), (.ref w_CANCEL)])) X28 hx rfl rfl rfl (pc0 := 11) (pc' := 18) (same := false) rfl (hb hby d_prog_17_method_6_11) rfl (decide_eq_false fun q => hc15 (Value.ref.inj q)) (by decide) (by decide) ?_
    show own_S p e below T28 (mkF m 18 #[.val (.ref w_CANCEL)] []) _
    refine XS.iconst X28.here hx rfl (hb hby d_prog_17_method_6_18) ?_
    show own_S p e below T28 (mkF m 19 #[.val (.ref w_CANCEL)] [(.int (0 : Int32))]) _
    exact retN X28 hx (t := .boolean) hret (by simp) (hb hby d_prog_17_method_6_19) hr
  · show Qrm26 Z w_DOWN w_UP w_CANCEL h0 _ T28.heap _
    rw [e28]
    exact ⟨rfl, N0, rfl⟩
def Qrm0_5 (Z : State) (w_DOWN : Addr) (w_UP : Addr) (w_CANCEL : Addr) (p1 : Int32) (h0 : Heap) (v : Option Value) (h : Heap) (L : List Loc) : Prop := v = some (.int 1) ∧ Fr Z.heap.size L
set_option maxRecDepth 65536 in
set_option maxHeartbeats 40000000 in
theorem rm0_5 (l : Launch) (Z : State) (a0 : Array Value) (hw : ∀ d ∈ tables_1, d.before a0 Z = true) (ws : List Jvm.Cond) (w_DOWN : Addr) (w_UP : Addr) (w_CANCEL : Addr) (p1 : Int32) (h0 : Heap) (Z0 : Ext Z.heap h0) (S_w_CANCEL : Sta Z Z.heap "com/example/fingerwork/fingerwork/PointerAction" "CANCEL" "Lcom/example/fingerwork/fingerwork/PointerAction;" (.ref w_CANCEL)) (E_w_CANCEL : Exa Z Z.heap w_CANCEL "com/example/fingerwork/fingerwork/PointerAction") (S_w_DOWN : Sta Z Z.heap "com/example/fingerwork/fingerwork/PointerAction" "DOWN" "Lcom/example/fingerwork/fingerwork/PointerAction;" (.ref w_DOWN)) (S_w_UP : Sta Z Z.heap "com/example/fingerwork/fingerwork/PointerAction" "UP" "Lcom/example/fingerwork/fingerwork/PointerAction;" (.ref w_UP)) (hc13 : ((p1 &&& (2147483647 : Int32)) % (6 : Int32)) = (5 : Int32)) (hc14 : ¬ (w_CANCEL = w_DOWN)) (hc15 : ¬ (w_CANCEL = w_UP)) :
    own_met l x code maxLocals ret ws room_1 Z #[(.int p1)] h0 (Qrm0_5 Z w_DOWN w_UP w_CANCEL p1 h0) := by
  refine own_start (plainFor_of_name pn_1) (fun m => ef_code_I m p1) ?_
  intro p e s m below meth c s₁ hx hby hml hown hnm X0 hZ e0 hret hlk
  have N0 := Fr.nil Z.heap.size
  obtain ⟨T25, X25, e25, st25⟩ := getS2 X0 hx hZ hown (host := "") (Or.inl (own_w hw 18 rfl)) Via.refl e0 (S_w_CANCEL.ext Z0) (g := (mkF m 77 #[.val (.int p1), .val (.int (5 : Int32)), .unset, .unset] [])) rfl (hb hby at_77)
  obtain ⟨_, T29, Lc29, X29, hQ29, st29⟩ := own_virtual (y := y_0) X25 hx hZ hown (own_w hw 4 rfl) (own_w hw 5 rfl) (own_w hw 7 rfl) (own_w hw 6 rfl) (own_w hw 2 rfl) (own_w hw 8 rfl) (by decide) (rm26 l Z a0 hw [] w_DOWN w_UP w_CANCEL h0 Z0 S_w_DOWN S_w_UP hc14 hc15) (by decide) (by decide) e25 (E_w_CANCEL.ext Z0) (g := (mkF m 84 #[.val (.int p1), .val (.int (5 : Int32)), .val (.ref w_CANCEL), .val (.int (0 : Int32))] [(.ref w_CANCEL)])) rfl (by rw [hml]; rfl) (argsL := []) (rest := []) (lenOf pd_0 rfl) rfl rfl (W := 0) (by show 2 * 0 + _ ≤ _; exact Nat.le_of_eq rfl) (hb hby at_84) (by decide) (by decide)
  obtain ⟨rfl, N29q, e29⟩ := hQ29
  have N29 := Fr.app N0 N29q
  obtain ⟨fs, hr, hrun, hended, hW, hsame⟩ := X29.leave (v := some (.int (1 : Int32))) (fun h => by rw [hret] at h; cases h) hlk
  refine ⟨_, _, ?_, hrun, hended, _, _, rfl, ?_, ⟨_, rfl⟩, hW, hsame.mono (by decide) (by decide)⟩
  · show own_S p e below s₁ (mkF m 0 #[.val (.int p1), .unset, .unset, .unset] []) _
    refine XS.iloadN X0.here hx rfl (hb hby at_0) rfl ?_
    show own_S p e below s₁ (mkF m 1 #[.val (.int p1), .unset, .unset, .unset] [(.int p1)]) _
    refine X0.ldcInt hx hown (mvT hZ (own_w hw 0 rfl)) (g := (mkF m 1 #[.val (.int p1), .unset, .unset, .unset] [(.int p1)])) rfl (hb hby at_1) _ ?_
    show own_S p e below s₁ (mkF m 3 #[.val (.int p1), .unset, .unset, .unset] [(.int (2147483647 : Int32)), (.int p1)]) _
    refine XS.iand X0.here hx rfl (hb hby at_3) rfl ?_
    show own_S p e below s₁ (mkF m 4 #[.val (.int p1), .unset, .unset, .unset] [(.int (p1 &&& (2147483647 : Int32)))]) _
    refine XS.bipush X0.here hx rfl (hb hby at_4) ?_
    show own_S p e below s₁ (mkF m 6 #[.val (.int p1), .unset, .unset, .unset] [(.int (6 : Int32)), (.int (p1 &&& (2147483647 : Int32)))]) _
    refine iremM X0 hx rfl (hb hby at_6) rfl (by decide) ?_
    show own_S p e below s₁ (mkF m 7 #[.val (.int p1), .unset, .unset, .unset] [(.int ((p1 &&& (2147483647 : Int32)) % (6 : Int32)))]) _
    rw [hc13]
    show own_S p e below s₁ (mkF m 7 #[.val (.int p1), .unset, .unset, .unset] [(.int (5 : Int32))]) _
    refine XS.istoreN X0.here hx rfl (hb hby at_7) rfl (l' := #[.val (.int p1), .val (.int (5 : Int32)), .unset, .unset]) rfl ?_
    show own_S p e below s₁ (mkF m 8 #[.val (.int p1), .val (.int (5 : Int32)), .unset, .unset] []) _
    refine XS.iloadN X0.here hx rfl (hb hby at_8) rfl ?_
    show own_S p e below s₁ (mkF m 9 #[.val (.int p1), .val (.int (5 : Int32)), .unset, .unset] [(.int (5 : Int32))]) _
    refine XS.ifYes X0.here hx rfl (pc0 := 9) (pc' := 21) rfl (hb hby at_9) rfl ((if0 _ _).trans (feq (by decide : ¬ ((5 : Int32) = (0 : Int32)))).2) (by decide) (by decide) ?_
    show own_S p e below s₁ (mkF m 21 #[.val (.int p1), .val (.int (5 : Int32)), .unset, .unset] []) _
    refine XS.iloadN X0.here hx rfl (hb hby at_21) rfl ?_
    show own_S p e below s₁ (mkF m 22 #[.val (.int p1), .val (.int (5 : Int32)), .unset, .unset] [(.int (5 : Int32))]) _
    refine XS.iconst X0.here hx rfl (hb hby at_22) ?_
    show own_S p e below s₁ (mkF m 23 #[.val (.int p1), .val (.int (5 : Int32)), .unset, .unset] [(.int (1 : Int32)), (.int (5 : Int32))]) _
    refine XS.icmpYes X0.here hx rfl (pc0 := 23) (pc' := 35) rfl (hb hby at_23) rfl (feq (by decide : ¬ ((5 : Int32) = (1 : Int32)))).2 (by decide) (by decide) ?_
    show own_S p e below s₁ (mkF m 35 #[.val (.int p1), .val (.int (5 : Int32)), .unset, .unset] []) _
    refine XS.iloadN X0.here hx rfl (hb hby at_35) rfl ?_
    show own_S p e below s₁ (mkF m 36 #[.val (.int p1), .val (.int (5 : Int32)), .unset, .unset] [(.int (5 : Int32))]) _
    refine XS.iconst X0.here hx rfl (hb hby at_36) ?_
    show own_S p e below s₁ (mkF m 37 #[.val (.int p1), .val (.int (5 : Int32)), .unset, .unset] [(.int (2 : Int32)), (.int (5 : Int32))]) _
    refine XS.icmpYes X0.here hx rfl (pc0 := 37) (pc' := 49) rfl (hb hby at_37) rfl (feq (by decide : ¬ ((5 : Int32) = (2 : Int32)))).2 (by decide) (by decide) ?_
    show own_S p e below s₁ (mkF m 49 #[.val (.int p1), .val (.int (5 : Int32)), .unset, .unset] []) _
    refine XS.iloadN X0.here hx rfl (hb hby at_49) rfl ?_
    show own_S p e below s₁ (mkF m 50 #[.val (.int p1), .val (.int (5 : Int32)), .unset, .unset] [(.int (5 : Int32))]) _
    refine XS.iconst X0.here hx rfl (hb hby at_50) ?_
    show own_S p e below s₁ (mkF m 51 #[.val (.int p1), .val (.int (5 : Int32)), .unset, .unset] [(.int (3 : Int32)), (.int (5 : Int32))]) _
    refine XS.icmpYes X0.here hx rfl (pc0 := 51) (pc' := 63) rfl (hb hby at_51) rfl (feq (by decide : ¬ ((5 : Int32) = (3 : Int32)))).2 (by decide) (by decide) ?_
    show own_S p e below s₁ (mkF m 63 #[.val (.int p1), .val (.int (5 : Int32)), .unset, .unset] []) _
    refine XS.iloadN X0.here hx rfl (hb hby at_63) rfl ?_
    show own_S p e below s₁ (mkF m 64 #[.val (.int p1), .val (.int (5 : Int32)), .unset, .unset] [(.int (5 : Int32))]) _
    refine XS.iconst X0.here hx rfl (hb hby at_64) ?_
    show own_S p e below s₁ (mkF m 65 #[.val (.int p1), .val (.int (5 : Int32)), .unset, .unset] [(.int (4 : Int32)), (.int (5 : Int32))]) _
    refine XS.icmpYes X0.here hx rfl (pc0 := 65) (pc' := 77) rfl (hb hby at_65) rfl (feq (by decide : ¬ ((5 : Int32) = (4 : Int32)))).2 (by decide) (by decide) ?_
    show own_S p e below s₁ (mkF m 77 #[.val (.int p1), .val (.int (5 : Int32)), .unset, .unset] []) _
    refine st25 _ ?_
    show own_S p e below T25 (mkF m 80 #[.val (.int p1), .val (.int (5 : Int32)), .unset, .unset] [(.ref w_CANCEL)]) _
    refine XS.astoreN X25.here hx rfl (hb hby at_80) rfl rfl (l' := #[.val (.int p1), .val (.int (5 : Int32)), .val (.ref w_CANCEL), .unset]) rfl ?_
    show own_S p e below T25 (mkF m 81 #[.val (.int p1), .val (.int (5 : Int32)), .val (.ref w_CANCEL), .unset] []) _
    refine XS.iconst X25.here hx rfl (hb hby at_81) ?_
    show own_S p e below T25 (mkF m 82 #[.val (.int p1), .val (.int (5 : Int32)), .val (.ref w_CANCEL), .unset] [(.int (0 : Int32))]) _
    refine XS.istoreN X25.here hx rfl (hb hby at_82) rfl (l' := #[.val (.int p1), .val (.int (5 : Int32)), .val (.ref w_CANCEL), .val (.int (0 : Int32))]) rfl ?_
    show own_S p e below T25 (mkF m 83 #[.val (.int p1), .val (.int (5 : Int32)), .val (.ref w_CANCEL), .val (.int (0 : Int32))] []) _
    refine XS.aloadN X25.here hx rfl (hb hby at_83) rfl rfl ?_
    show own_S p e below T25 (mkF m 84 #[.val (.int p1), .val (.int (5 : Int32)), .val (.ref w_CANCEL), .val (.int (0 : Int32))] [(.ref w_CANCEL)]) _
    refine st29 _ ?_
    show own_S p e below T29 (mkF m 87 #[.val (.int p1), .val (.int (5 : Int32)), .val (.ref w_CANCEL), .val (.int (0 : Int32))] [(.int (0 : Int32))]) _
    refine XS.iloadN X29.here hx rfl (hb hby at_87) rfl ?_
    show own_S p e below T29 (mkF m 88 #[.val (.int p1), .val (.int (5 : Int32)), .val (.ref w_CANCEL), .val (.int (0 : Int32))] [(.int (0 : Int32)), (.int (0 : Int32))]) _
    refine XS.icmpNo X29.here hx rfl (hb hby at_88) rfl (teq (rfl : (0 : Int32) = (0 : Int32))).2 ?_
    show own_S p e below T29 (mkF m 91 #[.val (.int p1), .val (.int (5 : Int32)), .val (.ref w_CANCEL), .val (.int (0 : Int32))] []) _
    refine XS.iconst X29.here hx rfl (hb hby at_91) ?_
    show own_S p e below T29 (mkF m 92 #[.val (.int p1), .val (.int (5 : Int32)), .val (.ref w_CANCEL), .val (.int (0 : Int32))] [(.int (1 : Int32))]) _
    refine XS.goto X29.here hx rfl (pc0 := 92) (pc' := 96) rfl (hb hby at_92) (by decide) (by decide) ?_
    show own_S p e below T29 (mkF m 96 #[.val (.int p1), .val (.int (5 : Int32)), .val (.ref w_CANCEL), .val (.int (0 : Int32))] [(.int (1 : Int32))]) _
    exact retN X29 hx (t := .boolean) hret (by simp) (hb hby at_96) hr
  · show Qrm0_5 Z w_DOWN w_UP w_CANCEL p1 h0 _ T29.heap _
    exact ⟨rfl, N29⟩
set_option maxRecDepth 65536 in
set_option maxHeartbeats 40000000 in
theorem comes_1 {Post : Tables → Env → Array Value → State → Outcome → State → Prop} (hpost : ∀ tb e args s v u, (limb_1_1.after args s (.returned v) u = true ∧ limb_1_2.after args s (.returned v) u = true ∧ True) → FrameEnd s (.returned v) u (Jvm.fieldLocs frame_1_writes args s ++ Jvm.arrayLocs frame_1_arrays args s ++ Jvm.staticLocs frame_1_statics s) 0 0 → Post tb e args s (.returned v) u) :
    ArmFor flags0 classFile x code maxLocals ret World_1 tables_1 room_1 Calls_1 rest_1 Pre_1 Post := by
  intro l hfl _ _ p e ha hc hk s m args below hf hA hF happ hP
  obtain ⟨hcalls, hrest, hpre⟩ := hP
  obtain ⟨-, -, -, hnamed, -, -, -, hat⟩ := (Spec.applies_iff hf).mp happ
  obtain ⟨hg, hn⟩ := and_e (Cond.before_iff.mp (show (Jvm.Cond.and given_1 narrow_1).before args s = true from hpre))
  obtain ⟨hcount, hG0⟩ := and_e hg
  have hA0 := hG0
  obtain ⟨v0, rfl⟩ : ∃ v0 : Value, args = #[v0] := by
    have hs : args.size = 1 := by simpa [Cond.value, given_1] using hcount
    obtain ⟨L⟩ := args
    match L, hs with
    | [v0], _ => exact ⟨v0, rfl⟩
  have hw := fun d (hd : d ∈ tables_1) => atoms_spec (ws := Jvm.Cond.code x code maxLocals ret :: tables_1) hat d (List.mem_cons_of_mem _ hd)
  obtain ⟨p1, ei0⟩ := is_v hA0
  obtain rfl : v0 = (.int p1) := Option.some.inj ei0
  obtain ⟨hN0, hR0⟩ := and_e hn
  obtain ⟨hN1, hR1⟩ := and_e hR0
  obtain ⟨hN2, hR2⟩ := and_e hR1
  obtain ⟨hN3, hR3⟩ := and_e hR2
  obtain ⟨hN4, hR4⟩ := and_e hR3
  obtain ⟨hN5, hR5⟩ := and_e hR4
  obtain ⟨hN6, hR6⟩ := and_e hR5
  obtain ⟨hN7, hR7⟩ := and_e hR6
  obtain ⟨hN8, hR8⟩ := and_e hR7
  obtain ⟨hN9, hR9⟩ := and_e hR8
  obtain ⟨hN10, hR10⟩ := and_e hR9
  have hN11 := hR10
  obtain ⟨w_DOWN, ev_w_DOWN⟩ := exa_v hN0
  have E_w_DOWN : Exa s s.heap w_DOWN "com/example/fingerwork/fingerwork/PointerAction" := Exa.start ev_w_DOWN hN0
  have S_w_DOWN : Sta s s.heap "com/example/fingerwork/fingerwork/PointerAction" "DOWN" "Lcom/example/fingerwork/fingerwork/PointerAction;" (.ref w_DOWN) := Sta.start ev_w_DOWN (Or.inr ⟨(own_w hw 2 rfl), (own_w hw 3 rfl)⟩)
  obtain ⟨w_POINTER_UP, ev_w_POINTER_UP⟩ := exa_v hN1
  have E_w_POINTER_UP : Exa s s.heap w_POINTER_UP "com/example/fingerwork/fingerwork/PointerAction" := Exa.start ev_w_POINTER_UP hN1
  have S_w_POINTER_UP : Sta s s.heap "com/example/fingerwork/fingerwork/PointerAction" "POINTER_UP" "Lcom/example/fingerwork/fingerwork/PointerAction;" (.ref w_POINTER_UP) := Sta.start ev_w_POINTER_UP (Or.inr ⟨(own_w hw 2 rfl), (own_w hw 11 rfl)⟩)
  obtain ⟨w_UP, ev_w_UP⟩ := exa_v hN4
  have E_w_UP : Exa s s.heap w_UP "com/example/fingerwork/fingerwork/PointerAction" := Exa.start ev_w_UP hN4
  have S_w_UP : Sta s s.heap "com/example/fingerwork/fingerwork/PointerAction" "UP" "Lcom/example/fingerwork/fingerwork/PointerAction;" (.ref w_UP) := Sta.start ev_w_UP (Or.inr ⟨(own_w hw 2 rfl), (own_w hw 13 rfl)⟩)
  obtain ⟨w_MOVE, ev_w_MOVE⟩ := exa_v hN6
  have E_w_MOVE : Exa s s.heap w_MOVE "com/example/fingerwork/fingerwork/PointerAction" := Exa.start ev_w_MOVE hN6
  have S_w_MOVE : Sta s s.heap "com/example/fingerwork/fingerwork/PointerAction" "MOVE" "Lcom/example/fingerwork/fingerwork/PointerAction;" (.ref w_MOVE) := Sta.start ev_w_MOVE (Or.inr ⟨(own_w hw 2 rfl), (own_w hw 15 rfl)⟩)
  obtain ⟨w_POINTER_DOWN, ev_w_POINTER_DOWN⟩ := exa_v hN8
  have E_w_POINTER_DOWN : Exa s s.heap w_POINTER_DOWN "com/example/fingerwork/fingerwork/PointerAction" := Exa.start ev_w_POINTER_DOWN hN8
  have S_w_POINTER_DOWN : Sta s s.heap "com/example/fingerwork/fingerwork/PointerAction" "POINTER_DOWN" "Lcom/example/fingerwork/fingerwork/PointerAction;" (.ref w_POINTER_DOWN) := Sta.start ev_w_POINTER_DOWN (Or.inr ⟨(own_w hw 2 rfl), (own_w hw 17 rfl)⟩)
  obtain ⟨w_CANCEL, ev_w_CANCEL⟩ := exa_v hN10
  have E_w_CANCEL : Exa s s.heap w_CANCEL "com/example/fingerwork/fingerwork/PointerAction" := Exa.start ev_w_CANCEL hN10
  have S_w_CANCEL : Sta s s.heap "com/example/fingerwork/fingerwork/PointerAction" "CANCEL" "Lcom/example/fingerwork/fingerwork/PointerAction;" (.ref w_CANCEL) := Sta.start ev_w_CANCEL (Or.inr ⟨(own_w hw 2 rfl), (own_w hw 19 rfl)⟩)
  have F_w_POINTER_UP_ordinal : Fld s s.heap w_POINTER_UP "java/lang/Enum" "ordinal" "I" (.int (3 : Int32)) := Fld.start ((fld_at ev_w_POINTER_UP).symm.trans (own_eqI hN2))
  have F_w_DOWN_ordinal : Fld s s.heap w_DOWN "java/lang/Enum" "ordinal" "I" (.int (0 : Int32)) := Fld.start ((fld_at ev_w_DOWN).symm.trans (own_eqI hN3))
  have F_w_UP_ordinal : Fld s s.heap w_UP "java/lang/Enum" "ordinal" "I" (.int (4 : Int32)) := Fld.start ((fld_at ev_w_UP).symm.trans (own_eqI hN5))
  have F_w_MOVE_ordinal : Fld s s.heap w_MOVE "java/lang/Enum" "ordinal" "I" (.int (2 : Int32)) := Fld.start ((fld_at ev_w_MOVE).symm.trans (own_eqI hN7))
  have F_w_POINTER_DOWN_ordinal : Fld s s.heap w_POINTER_DOWN "java/lang/Enum" "ordinal" "I" (.int (1 : Int32)) := Fld.start ((fld_at ev_w_POINTER_DOWN).symm.trans (own_eqI hN9))
  have F_w_CANCEL_ordinal : Fld s s.heap w_CANCEL "java/lang/Enum" "ordinal" "I" (.int (5 : Int32)) := Fld.start ((fld_at ev_w_CANCEL).symm.trans (own_eqI hN11))
  have hX0 : Ext s.heap s.heap := ⟨Nat.le_refl _, fun _ _ q => q⟩
  have key : MetFree l x (head1 (Jvm.Cond.code x code maxLocals ret :: tables_1) room_1) (fun a U => a = #[(.int p1)] ∧ s.Warmed39 U.vm ∧ U.heap = s.heap) (fun _ _ _ _ _ => True) (fun _ U o U' => ∃ v L, o = .returned v ∧ (v = some (.int 1) ∧ Fr s.heap.size L) ∧ FrameEnd U o U' L room_1.cells room_1.slots) := by
    rcases own_split p1 with hq | hq | hq | hq | hq | hq
    · exact rm0_0 l s _ hw tables_1 w_DOWN p1 s.heap hX0 S_w_DOWN E_w_DOWN hq
    · exact rm0_1 l s _ hw tables_1 w_DOWN w_UP w_POINTER_DOWN p1 s.heap hX0 S_w_POINTER_DOWN E_w_POINTER_DOWN S_w_DOWN S_w_UP hq (F_w_POINTER_DOWN_ordinal.ne F_w_DOWN_ordinal (by decide)) (F_w_POINTER_DOWN_ordinal.ne F_w_UP_ordinal (by decide))
    · exact rm0_2 l s _ hw tables_1 w_DOWN w_UP w_MOVE p1 s.heap hX0 S_w_MOVE E_w_MOVE S_w_DOWN S_w_UP hq (F_w_MOVE_ordinal.ne F_w_DOWN_ordinal (by decide)) (F_w_MOVE_ordinal.ne F_w_UP_ordinal (by decide))
    · exact rm0_3 l s _ hw tables_1 w_DOWN w_POINTER_UP w_UP p1 s.heap hX0 S_w_POINTER_UP E_w_POINTER_UP S_w_DOWN S_w_UP hq (F_w_POINTER_UP_ordinal.ne F_w_DOWN_ordinal (by decide)) (F_w_POINTER_UP_ordinal.ne F_w_UP_ordinal (by decide))
    · exact rm0_4 l s _ hw tables_1 w_DOWN w_UP p1 s.heap hX0 S_w_UP E_w_UP S_w_DOWN hq (F_w_UP_ordinal.ne F_w_DOWN_ordinal (by decide))
    · exact rm0_5 l s _ hw tables_1 w_DOWN w_UP w_CANCEL p1 s.heap hX0 S_w_CANCEL E_w_CANCEL S_w_DOWN S_w_UP hq (F_w_CANCEL_ordinal.ne F_w_DOWN_ordinal (by decide)) (F_w_CANCEL_ordinal.ne F_w_UP_ordinal (by decide))
  obtain ⟨n, o, h1, h2, h3, _, L, rfl, ⟨rfl, N⟩, hq⟩ := key p e ha hc hk s m _ below hf ((Spec.applies_iff_loose hf).mp happ).1 ⟨rfl, State.Warmed39.refl s, rfl⟩ trivial
  refine ⟨n, _, h1, h2, h3, hpost _ _ _ _ _ _ ⟨Cond.after_iff.mpr rfl, Cond.after_iff.mpr (eq_i res_at (Term.int_eval (1)) rfl), trivial⟩ ⟨hq.1, hq.2.1, (hq.2.2.sift fun y hy => Or.inr (N y hy)).mono (by decide) (by decide)⟩⟩
theorem main_1_1 : Claimed_1_1 := comes_1 fun _ _ _ _ _ _ h hF => ⟨h.1, hF⟩
theorem main_1_2 : Claimed_1_2 := comes_1 fun _ _ _ _ _ _ h hF => ⟨h.2.1, hF⟩
end Jvm.Pilot.@@N@@
namespace Jvm.Pilot.@@N@@
open Jvm Jvm.ClassFile Sem Op Lib Jvm.Free Jvm.Stand Jvm.Pilot.@@N@@.Jvm.D
/-! MADE BY PROGRAM (witnessworld.py) out of the Statement's table words and the real class files: 12 classes; the members and pool entries that the words name. The judged class is class 1, her method 1. -/
namespace start1
open Jvm.ClassFile
def u (s : String) : CpInfo := .utf8 (stringToUtf16 s)
/-- a pool by its gaps: so many unusable entries, then the entry; so many at the end -/
def gap : Nat → List CpInfo → List CpInfo
  | 0, r => r
  | n + 1, r => .unusable :: gap n r
def poolList (es : List (Nat × CpInfo)) (last : Nat) : List CpInfo := es.foldr (fun e r => gap e.1 (e.2 :: r)) (gap last [])
def pool (es : List (Nat × CpInfo)) (last : Nat) : Array CpInfo := ⟨poolList es last⟩
def fileOf (pool : Array CpInfo) (this : Nat) (attrs : Array Attribute := #[]) (ms : Array MethodInfo := #[]) (fl : Nat := 33) (sup : Nat := 0) (ifs : Array Nat := #[]) (fds : Array FieldInfo := #[]) : ClassFile where
  minorVersion := 0
  majorVersion := 65
  constantPool := pool
  accessFlags := fl
  thisClass := this
  superClass := sup
  interfaces := ifs
  fields := fds
  methods := ms
  attributes := attrs
def plain (name : String) (sup : Option ClassId) : Class where
  name := name
  kind := .ordinary
  loader := none
  accessFlags := 33
  super := sup
  interfaces := #[]
  cf := none
  fields := #[]
  methods := #[]
  instanceTypes := #[]
  staticTypes := #[]
  resolved := #[]
  callSites := []
  init := .initialized
  statics := none
  mirror := none

def pool0 : Array CpInfo := pool [(5, u "<init>"), (0, u "()V"), (1, .class_ 10), (1, u "java/lang/Object")] 113

def k0m0 : Method := { name := "<init>", desc := "()V", sig := { parameters := [], returnType := none }, accessFlags := 1, code := none }
/-- java/lang/Object -/
def k0 : Class := { plain "java/lang/Object" none with
  accessFlags := 33
  interfaces := #[]
  cf := some (fileOf pool0 8 #[] #[{ accessFlags := 1, nameIndex := 5, descriptorIndex := 6, attributes := #[] }] 33 0 #[] #[])
  fields := #[]
  methods := #[k0m0]
  instanceTypes := #[]
  staticTypes := #[]
  resolved := Array.replicate 124 none
  statics := none }

def pool1 : Array CpInfo := pool [(2, .class_ 4), (1, u "java/lang/Object"), (0, u "<init>"), (0, u "()V"), (0, .integer 2147483647), (0, .fieldref 9 10), (0, .class_ 11), (0, .nameAndType 12 13), (0, u "com/example/fingerwork/fingerwork/PointerAction"), (0, u "DOWN"), (0, u "Lcom/example/fingerwork/fingerwork/PointerAction;"), (0, .fieldref 9 15), (0, .nameAndType 16 13), (0, u "POINTER_DOWN"), (0, .fieldref 9 18), (0, .nameAndType 19 13), (0, u "MOVE"), (0, .fieldref 9 21), (0, .nameAndType 22 13), (0, u "POINTER_UP"), (0, .fieldref 9 24), (0, .nameAndType 25 13), (0, u "UP"), (0, .fieldref 9 27), (0, .nameAndType 28 13), (0, u "CANCEL"), (0, .methodref 9 30), (0, .nameAndType 31 32), (0, u "hasSinglePointer"), (0, u "()Z"), (0, .class_ 34), (0, u "com/example/fingerwork/fingerwork/PointerActionHasSinglePointerPinLaw"), (2, u "law"), (0, u "(I)Z")] 3

def k1m0 : Method := { name := "<init>", desc := "()V", sig := { parameters := [], returnType := none }, accessFlags := 1, code := none }
def k1c1 : Code := { maxStack := 2, maxLocals := 4, code := code, exceptionTable := #[], attributes := #[] }
def k1m1 : Method := { name := "law", desc := "(I)Z", sig := { parameters := [.int], returnType := some .boolean }, accessFlags := 9, code := some k1c1 }
/-- com/example/fingerwork/fingerwork/PointerActionHasSinglePointerPinLaw -/
def k1 : Class := { plain "com/example/fingerwork/fingerwork/PointerActionHasSinglePointerPinLaw" (some 0) with
  accessFlags := 49
  interfaces := #[]
  cf := some (fileOf pool1 33 #[] #[{ accessFlags := 1, nameIndex := 5, descriptorIndex := 6, attributes := #[] }, { accessFlags := 9, nameIndex := 37, descriptorIndex := 38, attributes := #[] }] 49 2 #[] #[])
  fields := #[]
  methods := #[k1m0, k1m1]
  instanceTypes := #[]
  staticTypes := #[]
  resolved := Array.replicate 42 none
  statics := none }

def pool2 : Array CpInfo := pool [(1, .class_ 2), (0, u "java/lang/constant/Constable"), (0, .class_ 4), (0, u "java/lang/Object")] 6

/-- java/lang/constant/Constable -/
def k2 : Class := { plain "java/lang/constant/Constable" (some 0) with
  accessFlags := 1537
  interfaces := #[]
  cf := some (fileOf pool2 1 #[] #[] 1537 3 #[] #[])
  fields := #[]
  methods := #[]
  instanceTypes := #[]
  staticTypes := #[]
  resolved := Array.replicate 11 none
  statics := none }

def pool3 : Array CpInfo := pool [(1, .class_ 2), (0, u "java/lang/Comparable"), (0, .class_ 4), (0, u "java/lang/Object")] 7

/-- java/lang/Comparable -/
def k3 : Class := { plain "java/lang/Comparable" (some 0) with
  accessFlags := 1537
  interfaces := #[]
  cf := some (fileOf pool3 1 #[] #[] 1537 3 #[] #[])
  fields := #[]
  methods := #[]
  instanceTypes := #[]
  staticTypes := #[]
  resolved := Array.replicate 12 none
  statics := none }

def pool4 : Array CpInfo := pool [(1, .class_ 2), (0, u "java/io/Serializable"), (0, .class_ 4), (0, u "java/lang/Object")] 2

/-- java/io/Serializable -/
def k4 : Class := { plain "java/io/Serializable" (some 0) with
  accessFlags := 1537
  interfaces := #[]
  cf := some (fileOf pool4 1 #[] #[] 1537 3 #[] #[])
  fields := #[]
  methods := #[]
  instanceTypes := #[]
  staticTypes := #[]
  resolved := Array.replicate 7 none
  statics := none }

def pool5 : Array CpInfo := pool [(2, .class_ 4), (1, u "java/lang/Enum"), (0, u "name"), (0, u "Ljava/lang/String;"), (2, u "ordinal"), (0, u "I"), (1, .class_ 14), (1, u "java/lang/Object"), (4, u "hash"), (86, .class_ 108), (1, u "java/lang/Enum$EnumDesc"), (2, .class_ 112), (0, u "java/lang/constant/Constable"), (0, .class_ 114), (0, u "java/lang/Comparable"), (0, .class_ 116), (0, u "java/io/Serializable")] 87

/-- java/lang/Enum -/
def k5 : Class := { plain "java/lang/Enum" (some 0) with
  accessFlags := 1057
  interfaces := #[2, 3, 4]
  cf := some (fileOf pool5 2 #[.nestMembers #[106]] #[] 1057 12 #[111, 113, 115] #[{ accessFlags := 18, nameIndex := 5, descriptorIndex := 6, attributes := #[] }, { accessFlags := 18, nameIndex := 9, descriptorIndex := 10, attributes := #[] }, { accessFlags := 2, nameIndex := 19, descriptorIndex := 10, attributes := #[] }])
  fields := #[{ name := "name", type := (.object "java/lang/String"), accessFlags := 18, slot := 0, constantValue := 0 }, { name := "ordinal", type := .int, accessFlags := 18, slot := 1, constantValue := 0 }, { name := "hash", type := .int, accessFlags := 2, slot := 2, constantValue := 0 }]
  methods := #[]
  instanceTypes := #[(.object "java/lang/String"), .int, .int]
  staticTypes := #[]
  resolved := Array.replicate 204 none
  statics := none }

def pool6 : Array CpInfo := pool [(1, .class_ 2), (0, u "com/example/fingerwork/fingerwork/PointerAction"), (0, .fieldref 1 4), (0, .nameAndType 5 6), (0, u "DOWN"), (0, u "Lcom/example/fingerwork/fingerwork/PointerAction;"), (2, u "POINTER_DOWN"), (2, u "MOVE"), (2, u "POINTER_UP"), (0, .fieldref 1 17), (0, .nameAndType 18 6), (0, u "UP"), (2, u "CANCEL"), (2, u "$VALUES"), (0, u "[Lcom/example/fingerwork/fingerwork/PointerAction;"), (6, .class_ 34), (1, u "java/lang/Enum"), (8, u "label"), (0, u "Ljava/lang/String;"), (50, u "()Z"), (1, u "hasSinglePointer")] 21

def k6c0 : Code := { maxStack := 2, maxLocals := 1, code := prog_17_method_6_code, exceptionTable := #[], attributes := #[] }
def k6m0 : Method := { name := "hasSinglePointer", desc := "()Z", sig := { parameters := [], returnType := some .boolean }, accessFlags := 1, code := some k6c0 }
/-- com/example/fingerwork/fingerwork/PointerAction -/
def k6 : Class := { plain "com/example/fingerwork/fingerwork/PointerAction" (some 5) with
  accessFlags := 16433
  interfaces := #[]
  cf := some (fileOf pool6 1 #[] #[{ accessFlags := 1, nameIndex := 97, descriptorIndex := 95, attributes := #[] }] 16433 32 #[] #[{ accessFlags := 16409, nameIndex := 5, descriptorIndex := 6, attributes := #[] }, { accessFlags := 16409, nameIndex := 9, descriptorIndex := 6, attributes := #[] }, { accessFlags := 16409, nameIndex := 12, descriptorIndex := 6, attributes := #[] }, { accessFlags := 16409, nameIndex := 15, descriptorIndex := 6, attributes := #[] }, { accessFlags := 16409, nameIndex := 18, descriptorIndex := 6, attributes := #[] }, { accessFlags := 16409, nameIndex := 21, descriptorIndex := 6, attributes := #[] }, { accessFlags := 18, nameIndex := 43, descriptorIndex := 44, attributes := #[] }, { accessFlags := 4122, nameIndex := 24, descriptorIndex := 25, attributes := #[] }])
  fields := #[{ name := "DOWN", type := (.object "com/example/fingerwork/fingerwork/PointerAction"), accessFlags := 16409, slot := 0, constantValue := 0 }, { name := "POINTER_DOWN", type := (.object "com/example/fingerwork/fingerwork/PointerAction"), accessFlags := 16409, slot := 1, constantValue := 0 }, { name := "MOVE", type := (.object "com/example/fingerwork/fingerwork/PointerAction"), accessFlags := 16409, slot := 2, constantValue := 0 }, { name := "POINTER_UP", type := (.object "com/example/fingerwork/fingerwork/PointerAction"), accessFlags := 16409, slot := 3, constantValue := 0 }, { name := "UP", type := (.object "com/example/fingerwork/fingerwork/PointerAction"), accessFlags := 16409, slot := 4, constantValue := 0 }, { name := "CANCEL", type := (.object "com/example/fingerwork/fingerwork/PointerAction"), accessFlags := 16409, slot := 5, constantValue := 0 }, { name := "label", type := (.object "java/lang/String"), accessFlags := 18, slot := 3, constantValue := 0 }, { name := "$VALUES", type := (.array (.object "com/example/fingerwork/fingerwork/PointerAction")), accessFlags := 4122, slot := 6, constantValue := 0 }]
  methods := #[k6m0]
  instanceTypes := #[(.object "java/lang/String"), .int, .int, (.object "java/lang/String")]
  staticTypes := #[(.object "com/example/fingerwork/fingerwork/PointerAction"), (.object "com/example/fingerwork/fingerwork/PointerAction"), (.object "com/example/fingerwork/fingerwork/PointerAction"), (.object "com/example/fingerwork/fingerwork/PointerAction"), (.object "com/example/fingerwork/fingerwork/PointerAction"), (.object "com/example/fingerwork/fingerwork/PointerAction"), (.array (.object "com/example/fingerwork/fingerwork/PointerAction"))]
  resolved := Array.replicate 119 none
  statics := some 0 }

def pool7 : Array CpInfo := pool [(1, u "java/lang/Cloneable"), (0, .class_ 1), (0, u "java/lang/Object"), (0, .class_ 3)] 3

/-- java/lang/Cloneable -/
def k7 : Class := { plain "java/lang/Cloneable" (some 0) with
  accessFlags := 1537
  interfaces := #[]
  cf := some (fileOf pool7 2 #[] #[] 1537 4 #[] #[])
  fields := #[]
  methods := #[]
  instanceTypes := #[]
  staticTypes := #[]
  resolved := Array.replicate 8 none
  statics := none }

/-- the primitive byte -/
def k8 : Class := { plain "byte" none with kind := .primitive 'B', accessFlags := 0x411 }
/-- [B -/
def k9 : Class := { plain "[B" (some 0) with kind := .array 8 .byte, interfaces := #[7, 4], accessFlags := 1041 }

/-- the primitive int -/
def k10 : Class := { plain "int" none with kind := .primitive 'I', accessFlags := 0x411 }
/-- [I -/
def k11 : Class := { plain "[I" (some 0) with kind := .array 10 .int, interfaces := #[7, 4], accessFlags := 1041 }

def heap : Heap := #[{ cls := 6, slots := #[.ref 1, .ref 5, .ref 4, .ref 2, .ref 3, .ref 6, .null], vm := .statics 6 },
  { cls := 6, slots := #[.null, .int 0, .int 0, .null], vm := .none },
  { cls := 6, slots := #[.null, .int 3, .int 0, .null], vm := .none },
  { cls := 6, slots := #[.null, .int 4, .int 0, .null], vm := .none },
  { cls := 6, slots := #[.null, .int 2, .int 0, .null], vm := .none },
  { cls := 6, slots := #[.null, .int 1, .int 0, .null], vm := .none },
  { cls := 6, slots := #[.null, .int 5, .int 0, .null], vm := .none }]
def classes : Array Class := #[k0, k1, k2, k3, k4, k5, k6, k7, k8, k9, k10, k11]
def interned : List (Array UInt16 × Addr) := []
def slotsUsed : Nat := 31
def theMethod : MethodId := ⟨1, 1⟩
def args0 : Array Value := #[.int 5]
def aboutOver (below : List Frame) : State where
  vm := { classes := classes, interned := interned.toArray }
  heap := heap
  slotsUsed := slotsUsed
  threads := #[{ frames := .invoking theMethod args0 :: below }]
def below0 : List Frame := [.native { method := ⟨0, 0⟩, args := #[] }]
def about1 : State := aboutOver below0
def p0 : Program := .bare "" "" ""
def e0 : Env := launch0.env 0 0 0
theorem w_frames : about1.frames = Frame.invoking theMethod args0 :: below0 := rfl
set_option maxRecDepth 65536 in
theorem w_args : argsFit about1.vm theMethod args0 = true := by decide +kernel
set_option maxRecDepth 65536 in
theorem w_heap : heapFits about1 = true := by decide +kernel
set_option maxRecDepth 65536 in
theorem w_runnable : about1.curStatus? = some .runnable := by decide +kernel
set_option maxRecDepth 65536 in
theorem w_alone : about1.alone = true := by decide +kernel
set_option maxRecDepth 65536 in
theorem w_named : about1.methodNamed? x = some theMethod := by decide +kernel
set_option maxRecDepth 65536 in
theorem w_hears : about1.hears theMethod below0 = true := by decide +kernel
set_option maxRecDepth 65536 in
theorem w_ripe : about1.ripe theMethod args0 below0 = true := by decide +kernel
theorem w_running : about1.status = .running := rfl
set_option maxRecDepth 65536 in
theorem w_room : about1.hasRoom e0.platform room_1 = true :=
  launch0.hasRoom_least _ room_1 (by decide +kernel) (by decide +kernel) (by decide +kernel) (by decide +kernel) (by decide +kernel) (by decide +kernel)
theorem allAtoms_all (ts : List Jvm.Cond) (a : Array Jvm.Value) (st : Jvm.State) : (allAtoms ts).before a st = ts.all (fun c => c.before a st) := by
  induction ts with
  | nil => rfl
  | cons c t ih =>
    show (Jvm.Cond.and c (allAtoms t)).before a st = _
    rw [Jvm.Cond.before_and, ih, List.all_cons]
def words1 : List Jvm.Cond := Jvm.Cond.code x code maxLocals ret :: tables_1
/-- a 'code' word, met by the world's own term for the bytes: nothing is compared byte by byte -/
theorem code_word {y : MethodName} {bytes : ByteArray} {mx : Nat} {rt : Option FieldType} {a : Array Value} {s : State} {m : MethodId} {meth : Method} {c : Code} (h1 : s.methodNamed? y = some m) (h2 : s.vm.method? m = some meth) (h3 : meth.code = some c) (h4 : c.code = bytes)
    (h5 : (c.maxLocals == mx && c.exceptionTable.isEmpty && decide (c.maxStack ≤ mostOperands) && decide (meth.sig.returnType = rt) && !meth.locks && decide (parseMethodDescriptor y.desc = some meth.sig)) = true) : (Jvm.Cond.code y bytes mx rt).before a s = true := by
  simp only [Bool.and_eq_true, beq_iff_eq, Bool.not_eq_true', decide_eq_true_eq] at h5
  obtain ⟨⟨⟨⟨⟨g1, g2⟩, g3⟩, g4⟩, g5⟩, g6⟩ := h5
  simp [Cond.before, Cond.holds, Cond.value, h1, h2, h3, h4, g1, g2, g3, g4, g5, g6]
def isCode : Jvm.Cond → Bool
  | .code _ _ _ _ => true
  | _ => false
theorem all_split {L : List Jvm.Cond} {P : Jvm.Cond → Bool} (h1 : L.all (fun c => isCode c || P c) = true) (h2 : ∀ c ∈ L.filter isCode, P c = true) : L.all P = true := by
  refine List.all_eq_true.mpr fun c hc => ?_
  have h := List.all_eq_true.mp h1 c hc
  rcases Bool.eq_false_or_eq_true (isCode c) with hi | hi
  · exact h2 c (List.mem_filter.mpr ⟨hc, hi⟩)
  · simpa [hi] using h
set_option maxRecDepth 65536 in
theorem w_c0 : (Jvm.Cond.code x code maxLocals ret).before args0 about1 = true := code_word (m := ⟨1, 1⟩) (meth := k1m1) (c := k1c1) (by decide +kernel) rfl rfl rfl (by decide +kernel)
set_option maxRecDepth 65536 in
theorem w_c1 : (Jvm.Cond.code ({ cls := "com/example/fingerwork/fingerwork/PointerAction", name := "hasSinglePointer", desc := "()Z" } : Jvm.MethodName) prog_17_method_6_code (1 : Nat) (Option.some Jvm.ClassFile.FieldType.boolean)).before args0 about1 = true := code_word (m := ⟨6, 0⟩) (meth := k6m0) (c := k6c0) (by decide +kernel) rfl rfl rfl (by decide +kernel)
def codes1 : List Jvm.Cond := [Jvm.Cond.code x code maxLocals ret, Jvm.Cond.code ({ cls := "com/example/fingerwork/fingerwork/PointerAction", name := "hasSinglePointer", desc := "()Z" } : Jvm.MethodName) prog_17_method_6_code (1 : Nat) (Option.some Jvm.ClassFile.FieldType.boolean)]
set_option maxRecDepth 65536 in
theorem codes_eq : words1.filter isCode = codes1 := rfl
theorem w_codes : ∀ c ∈ words1.filter isCode, c.before args0 about1 = true := by
  rw [codes_eq]
  intro c hc
  simp only [codes1, List.mem_cons, List.not_mem_nil, or_false] at hc
  rcases hc with rfl | rfl
  · exact w_c0
  · exact w_c1
set_option maxRecDepth 65536 in
theorem w_t1 : words1.all (fun c => isCode c || c.before args0 about1) = true := by decide +kernel
theorem w_tables : (allAtoms (Jvm.Cond.code x code maxLocals ret :: tables_1)).before args0 about1 = true := by
  rw [allAtoms_all]
  show words1.all (fun c => c.before args0 about1) = true
  refine all_split ?_ w_codes
  rw [w_t1]
set_option maxRecDepth 65536 in
theorem w_case : (Jvm.Cond.and given_1 narrow_1).before args0 about1 = true := by decide +kernel
theorem w_applies : (headSpec (Jvm.Cond.code x code maxLocals ret :: tables_1) room_1).applies x e0.platform about1 = true :=
  (Spec.applies_iff w_frames).mpr ⟨w_running, w_runnable, w_alone, w_named, w_hears, w_ripe, w_room, w_tables⟩
theorem atStart : AtStart classFile x code maxLocals ret World_1 tables_1 room_1 Calls_1 rest_1 Pre_1 launch0 p0 e0 about1 theMethod args0 below0 :=
  ⟨lists_1, trivial, launch0.admits_env _ _ _, launch0.least_env, fairChoices_fair.cas, fairChoices_fair.clock, w_frames, w_args, w_heap, w_applies, trivial, trivial, w_case⟩
end start1
theorem witness_1 : WitnessClaimed_1 := ⟨start1.p0, start1.e0, start1.about1, start1.theMethod, start1.args0, start1.below0, start1.atStart⟩
end Jvm.Pilot.@@N@@
