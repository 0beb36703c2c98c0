import JvmDerived
import JvmDerived.Pilot.@@N@@Statement
import JvmDerived.Pilot.@@N@@Code
set_option linter.unusedVariables false
set_option linter.unusedSimpArgs false
namespace Jvm.RoadKit
open Sem ClassFile Op Lib Jvm.Stand Jvm.Free Jvm.LawKit
section New
variable {p : Program} {l : Launch} {e : Env} {R : Room} {s : State} {m : MethodId} {args : Array Value} {below : List Frame} {meth : Method} {c : Code} {T : State} {locs : List Loc} {cells slots : Nat}
theorem retI (X : Stand p l e R s m args below meth c T locs cells slots) (hx : p.tables.exec = Jvm.exec) {pc : Nat} {Ls : Array Slot} {z : Int32} {rest : List Value} (hret : meth.sig.returnType = some .int) (hd : decode c.code pc = .ok (.ireturn, 1)) {fs : List Frame}
    (hl : ∀ (f : JFrame) (acts : List Action), f.method = m → f.locked = none → f.entered = [] → (doReturn e (T.setTop f) acts (some (.int z))).1 = T.setFrames fs) : Steps p.tables e below (T.setTop (mkF m pc Ls (.int z :: rest))) (T.setFrames fs) := by
  have hm' : T.vm.method? m = some meth := X.method'
  have hn : narrow .int (.int z) = .int z := rfl
  show Steps p.tables e below (T.setTop { method := m, pc := pc, locals := Ls, stack := _ :: rest, locked := none }) _
  jvm_step X.here [X.here.top, hx, hd, hm', hret, hn]
  first | (intro acts; rw [hl _ acts rfl rfl rfl]) | rw [hl _ _ rfl rfl rfl]
  exact Steps.refl _
end New
end Jvm.RoadKit
namespace Jvm.Pilot.@@N@@
open Jvm Jvm.ClassFile Sem Op Lib Jvm.Free Jvm.Stand Jvm.LawKit Jvm.RoadKit Bundle Jvm.Pilot.@@N@@.Jvm.D
theorem own_eqI {t : Term} {n : Int32} {args : Array Value} {s : State} (h : (Jvm.Cond.eq t (.int n)).value args s none s [] = some true) : t.eval args s none [] s = some (.int n) := by
  simp only [Cond.value, Term.eval] at h
  cases ht : t.eval args s none [] s with
  | none => simp [ht] at h
  | some x => cases x <;> simp [ht] at h ⊢; exact h
theorem own_eqJ {t : Term} {n : Int64} {args : Array Value} {s : State} (h : (Jvm.Cond.eq t (.long n)).value args s none s [] = some true) : t.eval args s none [] s = some (.long n) := by
  simp only [Cond.value, Term.eval] at h
  cases ht : t.eval args s none [] s with
  | none => simp [ht] at h
  | some x => cases x <;> simp [ht] at h ⊢; exact h
theorem own_eqR {t u : Term} {a : Addr} {args : Array Value} {s : State} (h : (Jvm.Cond.eq t u).value args s none s [] = some true) (hu : u.eval args s none [] s = some (.ref a)) : t.eval args s none [] s = some (.ref a) := by
  simp only [Cond.value, hu] at h
  cases ht : t.eval args s none [] s with
  | none => simp [ht] at h
  | some x => cases x <;> simp [ht] at h ⊢; exact h
theorem own_len {t : Term} {w : Addr} {c : Cell} {ty : FieldType} {n : Int32} {args : Array Value} {s : State} (ev : t.eval args s none [] s = some (.ref w)) (A : Arr s s.heap w c ty) (h : (Term.length t).eval args s none [] s = some (.int n)) (hn : ¬ n < 0) : c.slots.size = n.toNatClampNeg := by
  simp only [Term.eval, ev, A.fin (Vm.Alike.refl _), Option.bind_eq_bind, Option.bind_some] at h
  split at h
  · rename_i hl
    have q : c.slots.size.toInt32 = n := by simpa using h
    rw [← q]
    have q2 : c.slots.size.toInt32.toInt = (c.slots.size : Int) := len_toInt hl
    have q3 := nat_of (j := c.slots.size.toInt32) (by rw [q]; exact hn)
    omega
  · simp at h
theorem own_extW {Z : State} {h h' : Heap} {a : Addr} {sl : Nat} {v : Value} (X : Ext Z.heap h) (W : Wr h h' a sl v) (q : Z.heap.size ≤ a) : Ext Z.heap h' := (Old.wr (Z := Z) ⟨rfl, X⟩ W q).2
theorem own_ext2 {h h' h'' : Heap} (X : Ext h h') (E : Ext h' h'') : Ext h h'' := ⟨Nat.le_trans X.1 E.1, fun x c q => E.2 x c (X.2 x c q)⟩
theorem own_extK {Z : State} {h h' : Heap} {ws : List Addr} (X : Ext Z.heap h) (K : Keep h h' ws) (q : ∀ x ∈ ws, Z.heap.size ≤ x) : Ext Z.heap h' := (Old.keep (Z := Z) ⟨rfl, X⟩ K q).2
theorem own_neI {t : Term} {n x : Int32} {args : Array Value} {s : State} (h : (Jvm.Cond.eq t (.int n)).value args s none s [] = some (!true)) (ev : t.eval args s none [] s = some (.int x)) : ¬ (x = n) := by
  intro q
  subst q
  simp [Cond.value, Term.eval, ev] at h
theorem own_nsRoot {Z : State} {a0 : Array Value} {O K : String} {n : Nat} (w : (Jvm.Cond.noSuperclass O).before a0 Z = true) (wk : (Jvm.Cond.instantiable K n).before a0 Z = true) (hn : O ≠ K) : NS Z O K := by
  obtain ⟨c, k, h1, h2, h3, -, -⟩ := Cond.noSuperclass_spec w
  obtain ⟨t, k', g1, -⟩ := Cond.instantiable_spec wk
  have ne := ids_ne h1 g1 hn
  refine ⟨c, t, h1, g1, fun fuel => ?_⟩
  cases fuel with
  | zero => rfl
  | succ f => simp [Vm.isSubclassAux, ne, h2, h3]
theorem own_nsNo {Z : State} {a0 : Array Value} {C S K : String} {n : Nat} (w : (Jvm.Cond.superclass C S).before a0 Z = true) (wk : (Jvm.Cond.instantiable K n).before a0 Z = true) (N : NS Z C K) (hn : C ≠ K) : ∃ c t, Z.vm.findClass C = some c ∧ Z.vm.findClass K = some t ∧ Z.vm.assignable c t = false := by
  obtain ⟨c, t, h0, g0, n3⟩ := N
  obtain ⟨p, k, kp, h1, h2, h3, h4, h5, -, h7⟩ := Cond.superclass_spec h0 w
  obtain ⟨q, k', g1, g2, g5, g7, -, -⟩ := Cond.instantiable_spec wk
  cases g0.symm.trans g1
  have ne := ids_ne h0 g0 hn
  have gi : k'.isInterface = false := by cases hi : k'.isInterface <;> simp [hi] at g7 ⊢
  refine ⟨c, t, h0, g0, ?_⟩
  show Z.vm.assignableAux (255 + 1) c t = false
  simp [Vm.assignableAux, ne, h2, g2, h5, g5, gi, Vm.isSubclass, n3]
theorem own_nb (x : Int32) : nar .byte (x.toInt8.toInt32) = x.toInt8.toInt32 := by simp [nar]
abbrev own_S (p : Program) (e : Env) (below : List Frame) (T : State) (g : JFrame) (t : State) : Prop := Steps p.tables e below (T.setTop g) t
theorem own_w {Z : State} {a0 : Array Value} (hw : ∀ d ∈ tables_1, d.before a0 Z = true) {d : Jvm.Cond} (i : Nat) (h : tables_1[i]? = some d) : d.before a0 Z = true := hw _ (List.mem_of_getElem? h)
/-- a body's contract: what it returns and leaves -/
abbrev own_met (l : Launch) (y : MethodName) (b : ByteArray) (ml : Nat) (rt : Option FieldType) (ws : List Jvm.Cond) (R : Room) (Z : State) (A : Array Value) (h0 : Heap) (Q : Option Value → Heap → List Loc → Prop) : Prop :=
  MetFree l y (head1 (Jvm.Cond.code y b ml rt :: ws) R) (fun a U => a = A ∧ Z.Warmed39 U.vm ∧ U.heap = h0) (fun _ _ _ _ _ => True) (fun _ U o U' => ∃ v L, o = .returned v ∧ Q v U'.heap L ∧ FrameEnd U o U' L R.cells R.slots)
theorem own_start {l : Launch} {y : MethodName} {b : ByteArray} {ml : Nat} {rt : Option FieldType} {ws : List Jvm.Cond} {R : Room} {Z : State} {A : Array Value} {h0 : Heap} {Q : Option Value → Heap → List Loc → Prop} {Ls : Array Slot}
    (hpl : plainFor y = true) (hef : ∀ m, entryFrame m A ml = mkF m 0 Ls [])
    (body : ∀ p e s m below meth c s₁, p.tables.exec = Jvm.exec → c.code = b → c.maxLocals = ml → s.vm.findClass y.cls = some m.cls → meth.name = y.name → Stand p l e R s m A below meth c s₁ [] 0 0 → Z.Warmed39 s.vm → s₁.heap = h0 → meth.sig.returnType = rt → meth.locks = false →
      ∃ s₂ o, Steps p.tables e below (s₁.setTop (mkF m 0 Ls [])) s₂ ∧ s₂.status = .running ∧ Ended s₂ below o ∧ ∃ v L, o = .returned v ∧ Q v s₂.heap L ∧ FrameEnd s o s₂ L R.cells R.slots) : own_met l y b ml rt ws R Z A h0 Q := by
  refine MetFree.of_bodySF hpl hisR ?_
  intro p e s m args below meth c s₁ Bd hml0 hP hK
  obtain ⟨rfl, hZ, hh⟩ := hP
  obtain ⟨s₂, o, k, r⟩ := body p e s m below meth c s₁ Bd.exec Bd.bytes hml0 (findClass_of_methodNamed Bd.named) (name_of_methodNamed Bd.named Bd.method).1 (Stand.of_body Bd) hZ (by rw [← hh, Bd.state]; rfl) Bd.returns Bd.notSynchronized
  exact ⟨s₂, o, castTop (hef m) k, r⟩
section OwnCalls
variable {p : Program} {l : Launch} {e : Env} {R : Room} {s : State} {m : MethodId} {args : Array Value} {below : List Frame} {meth : Method} {c : Code} {T : State} {locs : List Loc} {cells slots : Nat} {Z : State} {a0 : Array Value} {h : Heap} {own : String} {index : Nat} {y z : MethodName} {b : ByteArray} {ml : Nat} {rt : Option FieldType} {rm : Room} {as' : Array Value} {Q : Option Value → Heap → List Loc → Prop} {W : Nat} {g : JFrame} {argsL rest : List Value}
theorem own_static (X : Stand p l e R s m args below meth c T locs cells slots) (hx : p.tables.exec = Jvm.exec) (hZ : Z.Warmed39 s.vm) (hown : s.vm.findClass own = some m.cls) (w1 : (Jvm.Cond.methodLink own index y).before a0 Z = true) (w2 : (Jvm.Cond.static y).before a0 Z = true) (w3 : (Jvm.Cond.initialized y.cls).before a0 Z = true) (w4 : (Jvm.Cond.code y b ml rt).before a0 Z = true)
    (hy : y.cls ≠ "java/lang/invoke/MethodHandle" ∧ y.cls ≠ "java/lang/invoke/VarHandle") (hM : own_met l y b ml rt [] rm Z as' h Q) (hf : rm.frames + 1 ≤ R.frames) (hl : W + (ml + 11) + rm.locals ≤ R.locals) (eT : T.heap = h) (hg : g.method = m) (hsize : g.locals.size = c.maxLocals) (hlen : ∀ sig, parseMethodDescriptor y.desc = some sig → argsL.length = sig.parameters.length) (ha : argsL.toArray = as')
    (hs : g.stack = argsL.reverse ++ rest) (hW : 2 * g.monitorRoom + (rest.map fun v => v.category).sum ≤ W) (hd : decode c.code g.pc = .ok (.invokestatic index, 3)) (hc : cells + rm.cells ≤ R.cells) (hsl : slots + rm.slots ≤ R.slots) :
    ∃ v T' L, Stand p l e R s m args below meth c T' (locs ++ L) (cells + rm.cells) (slots + rm.slots) ∧ Q v T'.heap L ∧ ∀ target, Steps p.tables e below (T'.setTop { g with pc := g.pc + 3, stack := v.toList ++ rest }) target → Steps p.tables e below (T.setTop g) target := by
  obtain ⟨v, _, ⟨T', L', k', n'⟩, -, X', ⟨Lc, hQ, l1, y1, z1⟩, st⟩ := Jvm.LawKit.callS X hx (y := y) hown (mvT hZ w1) (mvT hZ w2) (mvT hZ w3) (mvT hZ w4) hy (backOf (W := W) hM hZ w4 w3 hf hl) (g := g) hg hsize (argsL := argsL) (rest := rest) hlen hs hW hd (fun _ _ => ⟨ha, eT, hc, hsl⟩)
  dsimp only [Pt.U, Pt.locs, Pt.cells, Pt.slots] at X' l1 y1 z1 st hQ
  subst l1 y1 z1
  exact ⟨v, T', Lc, X', hQ, st⟩
theorem own_special (X : Stand p l e R s m args below meth c T locs cells slots) (hx : p.tables.exec = Jvm.exec) (hZ : Z.Warmed39 s.vm) (hown : s.vm.findClass own = some m.cls) (hn : y.name = "<init>") (w1 : (Jvm.Cond.methodLink own index y).before a0 Z = true) (w2 : (Jvm.Cond.instanceMethod y).before a0 Z = true) (w3 : (Jvm.Cond.initialized y.cls).before a0 Z = true) (w4 : (Jvm.Cond.code y b ml none).before a0 Z = true)
    (hy : y.cls ≠ "java/lang/invoke/MethodHandle" ∧ y.cls ≠ "java/lang/invoke/VarHandle") (hM : own_met l y b ml none [] rm Z as' h Q) (hf : rm.frames + 1 ≤ R.frames) (hl : W + (ml + 11) + rm.locals ≤ R.locals) (eT : T.heap = h) (hg : g.method = m) (hsize : g.locals.size = c.maxLocals) (a : Addr) (hlen : ∀ sig, parseMethodDescriptor y.desc = some sig → argsL.length = sig.parameters.length) (ha : (Value.ref a :: argsL).toArray = as')
    (hs : g.stack = argsL.reverse ++ .ref a :: rest) (hW : 2 * g.monitorRoom + (rest.map fun v => v.category).sum ≤ W) (hd : decode c.code g.pc = .ok (.invokespecial index, 3)) (hc : cells + rm.cells ≤ R.cells) (hsl : slots + rm.slots ≤ R.slots) :
    ∃ v T' L, Stand p l e R s m args below meth c T' (locs ++ L) (cells + rm.cells) (slots + rm.slots) ∧ Q v T'.heap L ∧ ∀ target, Steps p.tables e below (T'.setTop { g with pc := g.pc + 3, stack := v.toList ++ rest }) target → Steps p.tables e below (T.setTop g) target := by
  obtain ⟨v, _, ⟨T', L', k', n'⟩, -, X', ⟨Lc, hQ, l1, y1, z1⟩, st⟩ := X.specialBack hx (y := y) hn hown (mvT hZ w1) (mvT hZ w2) (mvT hZ w4) hy (backOf (W := W) hM hZ w4 w3 hf hl) (g := g) hg hsize (Steps.refl _) (a := a) (argsL := argsL) (rest := rest) hlen hs hW hd (fun _ _ => ⟨ha, eT, hc, hsl⟩)
  dsimp only [Pt.U, Pt.locs, Pt.cells, Pt.slots] at X' l1 y1 z1 st hQ
  subst l1 y1 z1
  exact ⟨v, T', Lc, X', hQ, fun _ k => st.trans k⟩
theorem own_virtual (X : Stand p l e R s m args below meth c T locs cells slots) (hx : p.tables.exec = Jvm.exec) (hZ : Z.Warmed39 s.vm) (hown : s.vm.findClass own = some m.cls) {C : String} (w1 : (Jvm.Cond.methodLink own index y).before a0 Z = true) (w5 : (Jvm.Cond.declares y).before a0 Z = true) (w6 : (Jvm.Cond.selects C y y).before a0 Z = true) (w2 : (Jvm.Cond.instanceMethod y).before a0 Z = true) (w3 : (Jvm.Cond.initialized y.cls).before a0 Z = true) (w4 : (Jvm.Cond.code y b ml rt).before a0 Z = true)
    (hy : y.cls ≠ "java/lang/invoke/MethodHandle" ∧ y.cls ≠ "java/lang/invoke/VarHandle") (hM : own_met l y b ml rt [] rm Z as' h Q) (hf : rm.frames + 1 ≤ R.frames) (hl : W + (ml + 11) + rm.locals ≤ R.locals) (eT : T.heap = h) {a : Addr} (E : Exa Z h a C) (hg : g.method = m) (hsize : g.locals.size = c.maxLocals) (hlen : ∀ sig, parseMethodDescriptor y.desc = some sig → argsL.length = sig.parameters.length) (ha : (Value.ref a :: argsL).toArray = as')
    (hs : g.stack = argsL.reverse ++ .ref a :: rest) (hW : 2 * g.monitorRoom + (rest.map fun v => v.category).sum ≤ W) (hd : decode c.code g.pc = .ok (.invokevirtual index, 3)) (hc : cells + rm.cells ≤ R.cells) (hsl : slots + rm.slots ≤ R.slots) :
    ∃ v T' L, Stand p l e R s m args below meth c T' (locs ++ L) (cells + rm.cells) (slots + rm.slots) ∧ Q v T'.heap L ∧ ∀ target, Steps p.tables e below (T'.setTop { g with pc := g.pc + 3, stack := v.toList ++ rest }) target → Steps p.tables e below (T.setTop g) target := by
  obtain ⟨cq, kq, qa, qb, qc⟩ := isOf hZ eT E
  obtain ⟨v, _, ⟨T', L', k', n'⟩, -, X', ⟨Lc, hQ, l1, y1, z1⟩, st⟩ := X.virtualBack hx (y := y) (z := y) hown (mvT hZ w1) (mvT hZ w5) (notFace_of_selects (args := #[]) (mvT hZ w6)) (mvT hZ w6) (mvT hZ w2) hy (backOf (W := W) hM hZ w4 w3 hf hl) qa qc (g := g) hg hsize (Steps.refl _) (argsL := argsL) (rest := rest) hlen hs hW hd (fun _ _ => ⟨ha, eT, hc, hsl⟩)
  dsimp only [Pt.U, Pt.locs, Pt.cells, Pt.slots] at X' l1 y1 z1 st hQ
  subst l1 y1 z1
  exact ⟨v, T', Lc, X', hQ, fun _ k => st.trans k⟩
theorem own_virtualUp (X : Stand p l e R s m args below meth c T locs cells slots) (hx : p.tables.exec = Jvm.exec) (hZ : Z.Warmed39 s.vm) (hown : s.vm.findClass own = some m.cls) {C owner : String} (w1 : (Jvm.Cond.methodLink own index z).before a0 Z = true) (w7 : (Jvm.Cond.sameMethod z.cls owner z.name z.desc).before a0 Z = true) (w5 : (Jvm.Cond.declares ⟨owner, z.name, z.desc⟩).before a0 Z = true) (w6 : (Jvm.Cond.selects C z y).before a0 Z = true) (w2 : (Jvm.Cond.instanceMethod y).before a0 Z = true) (w3 : (Jvm.Cond.initialized y.cls).before a0 Z = true) (w4 : (Jvm.Cond.code y b ml rt).before a0 Z = true)
    (hy : owner ≠ "java/lang/invoke/MethodHandle" ∧ owner ≠ "java/lang/invoke/VarHandle") (hM : own_met l y b ml rt [] rm Z as' h Q) (hf : rm.frames + 1 ≤ R.frames) (hl : W + (ml + 11) + rm.locals ≤ R.locals) (eT : T.heap = h) {a : Addr} (E : Exa Z h a C) (hg : g.method = m) (hsize : g.locals.size = c.maxLocals) (hlen : ∀ sig, parseMethodDescriptor z.desc = some sig → argsL.length = sig.parameters.length) (ha : (Value.ref a :: argsL).toArray = as')
    (hs : g.stack = argsL.reverse ++ .ref a :: rest) (hW : 2 * g.monitorRoom + (rest.map fun v => v.category).sum ≤ W) (hd : decode c.code g.pc = .ok (.invokevirtual index, 3)) (hc : cells + rm.cells ≤ R.cells) (hsl : slots + rm.slots ≤ R.slots) :
    ∃ v T' L, Stand p l e R s m args below meth c T' (locs ++ L) (cells + rm.cells) (slots + rm.slots) ∧ Q v T'.heap L ∧ ∀ target, Steps p.tables e below (T'.setTop { g with pc := g.pc + 3, stack := v.toList ++ rest }) target → Steps p.tables e below (T.setTop g) target := by
  obtain ⟨cq, kq, qa, qb, qc⟩ := isOf hZ eT E
  obtain ⟨v, _, ⟨T', L', k', n'⟩, -, X', ⟨Lc, hQ, l1, y1, z1⟩, st⟩ := X.virtualBackUp hx (x := z) (y := y) (owner := owner) hown (mvT hZ w1) (mvT hZ w7) (mvT hZ w5) hy (mvT hZ w6) (mvT hZ w2) (backOf (W := W) hM hZ w4 w3 hf hl) qa qc (g := g) hg hsize (Steps.refl _) (argsL := argsL) (rest := rest) hlen hs hW hd (fun _ _ => ⟨ha, eT, hc, hsl⟩)
  dsimp only [Pt.U, Pt.locs, Pt.cells, Pt.slots] at X' l1 y1 z1 st hQ
  subst l1 y1 z1
  exact ⟨v, T', Lc, X', hQ, fun _ k => st.trans k⟩
end OwnCalls

theorem own_split (p1 : Int32) : ((p1 &&& (2147483647 : Int32)) % (6 : Int32)) = (0 : Int32) ∨ ((p1 &&& (2147483647 : Int32)) % (6 : Int32)) = (1 : Int32) ∨ ((p1 &&& (2147483647 : Int32)) % (6 : Int32)) = (2 : Int32) ∨ ((p1 &&& (2147483647 : Int32)) % (6 : Int32)) = (3 : Int32) ∨ ((p1 &&& (2147483647 : Int32)) % (6 : Int32)) = (4 : Int32) ∨ ((p1 &&& (2147483647 : Int32)) % (6 : Int32)) = (5 : Int32) := by
  have h := c_mask p1 (2147483647 : Int32) 31 (by decide) (by decide)
  have hk : ((2 ^ 31 : Nat) : Int) = 2147483648 := by decide
  rw [hk] at h
  have h2 := (c_irem (p1 &&& (2147483647 : Int32)) (6 : Int32) 6 (by decide)).1 (by omega)
  have q : (((p1 &&& (2147483647 : Int32)) % (6 : Int32))).toInt = 0 ∨ (((p1 &&& (2147483647 : Int32)) % (6 : Int32))).toInt = 1 ∨ (((p1 &&& (2147483647 : Int32)) % (6 : Int32))).toInt = 2 ∨ (((p1 &&& (2147483647 : Int32)) % (6 : Int32))).toInt = 3 ∨ (((p1 &&& (2147483647 : Int32)) % (6 : Int32))).toInt = 4 ∨ (((p1 &&& (2147483647 : Int32)) % (6 : Int32))).toInt = 5 := by omega
  rcases q with q | q | q | q | q | q
  · exact Or.inl (Int32.toInt_inj.mp (q.trans (by decide)))
  · exact Or.inr (Or.inl (Int32.toInt_inj.mp (q.trans (by decide))))
  · exact Or.inr (Or.inr (Or.inl (Int32.toInt_inj.mp (q.trans (by decide)))))
  · exact Or.inr (Or.inr (Or.inr (Or.inl (Int32.toInt_inj.mp (q.trans (by decide))))))
  · exact Or.inr (Or.inr (Or.inr (Or.inr (Or.inl (Int32.toInt_inj.mp (q.trans (by decide)))))))
  · exact Or.inr (Or.inr (Or.inr (Or.inr (Or.inr ((Int32.toInt_inj.mp (q.trans (by decide))))))))
theorem pn_0 : plainName "com/example/fingerwork/fingerwork/PointerActionNamesChangedPointerPinLaw" = true := by first | (simp [plainName, overriddenIn]; done) | decide +kernel
theorem pn_1 : plainName "com/example/fingerwork/fingerwork/PointerAction" = true := by first | (simp [plainName, overriddenIn]; done) | decide +kernel
theorem pd_0 : parseMethodDescriptor "(I)Lcom/example/fingerwork/fingerwork/PointerAction;" = some ⟨[.int], some (.object "com/example/fingerwork/fingerwork/PointerAction")⟩ := by decide +kernel
theorem pd_1 : parseMethodDescriptor "()Z" = some ⟨[], some .boolean⟩ := by decide +kernel
abbrev y_0 : MethodName := ⟨"com/example/fingerwork/fingerwork/PointerActionNamesChangedPointerPinLaw", "pick", "(I)Lcom/example/fingerwork/fingerwork/PointerAction;"⟩
abbrev y_1 : MethodName := ⟨"com/example/fingerwork/fingerwork/PointerAction", "namesChangedPointer", "()Z"⟩
theorem d_method_3_0 : decode method_3_code 0 = .ok (.iload_n 0, 1) := by decide +kernel
theorem d_method_3_1 : decode method_3_code 1 = .ok (.ifCond .ne 7, 3) := by decide +kernel
theorem d_method_3_4 : decode method_3_code 4 = .ok (.getstatic 20, 3) := by decide +kernel
theorem d_method_3_7 : decode method_3_code 7 = .ok (.areturn, 1) := by decide +kernel
theorem d_prog_17_method_5_0 : decode prog_17_method_5_code 0 = .ok (.aload_n 0, 1) := by decide +kernel
theorem d_prog_17_method_5_1 : decode prog_17_method_5_code 1 = .ok (.getstatic 7, 3) := by decide +kernel
theorem d_prog_17_method_5_4 : decode prog_17_method_5_code 4 = .ok (.if_acmp .eq 10, 3) := by decide +kernel
theorem d_prog_17_method_5_7 : decode prog_17_method_5_code 7 = .ok (.aload_n 0, 1) := by decide +kernel
theorem d_prog_17_method_5_8 : decode prog_17_method_5_code 8 = .ok (.getstatic 13, 3) := by decide +kernel
theorem d_prog_17_method_5_11 : decode prog_17_method_5_code 11 = .ok (.if_acmp .ne 7, 3) := by decide +kernel
theorem d_prog_17_method_5_18 : decode prog_17_method_5_code 18 = .ok (.iconst 0, 1) := by decide +kernel
theorem d_prog_17_method_5_19 : decode prog_17_method_5_code 19 = .ok (.ireturn, 1) := by decide +kernel
theorem d_method_3_8 : decode method_3_code 8 = .ok (.iload_n 0, 1) := by decide +kernel
theorem d_method_3_9 : decode method_3_code 9 = .ok (.iconst 1, 1) := by decide +kernel
theorem d_method_3_10 : decode method_3_code 10 = .ok (.if_icmp .ne 7, 3) := by decide +kernel
theorem d_method_3_13 : decode method_3_code 13 = .ok (.getstatic 24, 3) := by decide +kernel
theorem d_method_3_16 : decode method_3_code 16 = .ok (.areturn, 1) := by decide +kernel
theorem d_prog_17_method_5_14 : decode prog_17_method_5_code 14 = .ok (.iconst 1, 1) := by decide +kernel
theorem d_prog_17_method_5_15 : decode prog_17_method_5_code 15 = .ok (.goto 4, 3) := by decide +kernel
theorem d_method_3_17 : decode method_3_code 17 = .ok (.iload_n 0, 1) := by decide +kernel
theorem d_method_3_18 : decode method_3_code 18 = .ok (.iconst 2, 1) := by decide +kernel
theorem d_method_3_19 : decode method_3_code 19 = .ok (.if_icmp .ne 7, 3) := by decide +kernel
theorem d_method_3_22 : decode method_3_code 22 = .ok (.getstatic 27, 3) := by decide +kernel
theorem d_method_3_25 : decode method_3_code 25 = .ok (.areturn, 1) := by decide +kernel
theorem d_method_3_26 : decode method_3_code 26 = .ok (.iload_n 0, 1) := by decide +kernel
theorem d_method_3_27 : decode method_3_code 27 = .ok (.iconst 3, 1) := by decide +kernel
theorem d_method_3_28 : decode method_3_code 28 = .ok (.if_icmp .ne 7, 3) := by decide +kernel
theorem d_method_3_31 : decode method_3_code 31 = .ok (.getstatic 30, 3) := by decide +kernel
theorem d_method_3_34 : decode method_3_code 34 = .ok (.areturn, 1) := by decide +kernel
theorem d_method_3_35 : decode method_3_code 35 = .ok (.iload_n 0, 1) := by decide +kernel
theorem d_method_3_36 : decode method_3_code 36 = .ok (.iconst 4, 1) := by decide +kernel
theorem d_method_3_37 : decode method_3_code 37 = .ok (.if_icmp .ne 7, 3) := by decide +kernel
theorem d_method_3_40 : decode method_3_code 40 = .ok (.getstatic 33, 3) := by decide +kernel
theorem d_method_3_43 : decode method_3_code 43 = .ok (.areturn, 1) := by decide +kernel
theorem d_method_3_44 : decode method_3_code 44 = .ok (.getstatic 36, 3) := by decide +kernel
theorem d_method_3_47 : decode method_3_code 47 = .ok (.areturn, 1) := by decide +kernel
theorem ef_method_3_I (m : MethodId) (x0 : Int32) : entryFrame m #[(.int x0)] 1 = mkF m 0 #[.val (.int x0)] [] := by first | (simp [entryFrame, mkF, argsToLocals, Value.category]; done) | rfl
theorem ef_prog_17_method_5_R (m : MethodId) (x0 : Addr) : entryFrame m #[(.ref x0)] 1 = mkF m 0 #[.val (.ref x0)] [] := by first | (simp [entryFrame, mkF, argsToLocals, Value.category]; done) | rfl
theorem ef_code_I (m : MethodId) (x0 : Int32) : entryFrame m #[(.int x0)] maxLocals = mkF m 0 #[.val (.int x0), .unset, .unset, .unset] [] := by first | (simp [entryFrame, mkF, argsToLocals, Value.category, maxLocals]; done) | rfl
def Qrm1 (Z : State) (w_DOWN : Addr) (h0 : Heap) (v : Option Value) (h : Heap) (L : List Loc) : Prop := v = some (.ref w_DOWN) ∧ Fr Z.heap.size L ∧ h = h0
set_option maxRecDepth 65536 in
set_option maxHeartbeats 40000000 in
theorem rm1 (l : Launch) (Z : State) (a0 : Array Value) (hw : ∀ d ∈ tables_1, d.before a0 Z = true) (ws : List Jvm.Cond) (w_DOWN : Addr) (h0 : Heap) (Z0 : Ext Z.heap h0) (S_w_DOWN : Sta Z Z.heap "com/example/fingerwork/fingerwork/PointerAction" "DOWN" "Lcom/example/fingerwork/fingerwork/PointerAction;" (.ref w_DOWN)) :
    own_met l y_0 method_3_code 1 (some (.object "com/example/fingerwork/fingerwork/PointerAction")) ws ({ frames := 0, cells := 0, slots := 0, locals := 0 } : Room) Z #[(.int (0 : Int32))] h0 (Qrm1 Z w_DOWN h0) := by
  refine own_start (plainFor_of_name pn_0) (fun m => ef_method_3_I m (0 : Int32)) ?_
  intro p e s m below meth c s₁ hx hby hml hown hnm X0 hZ e0 hret hlk
  have N0 := Fr.nil Z.heap.size
  obtain ⟨T2, X2, e2, st2⟩ := getS2 X0 hx hZ hown (host := "") (Or.inl (own_w hw 5 rfl)) Via.refl e0 (S_w_DOWN.ext Z0) (g := (mkF m 4 #[.val (.int (0 : Int32))] [])) rfl (hb hby d_method_3_4)
  obtain ⟨fs, hr, hrun, hended, hW, hsame⟩ := X2.leave (v := some (.ref w_DOWN)) (fun h => by rw [hret] at h; cases h) hlk
  refine ⟨_, _, ?_, hrun, hended, _, _, rfl, ?_, ⟨_, rfl⟩, hW, hsame.mono (by decide) (by decide)⟩
  · show own_S p e below s₁ (mkF m 0 #[.val (.int (0 : Int32))] []) _
    refine XS.iloadN X0.here hx rfl (hb hby d_method_3_0) rfl ?_
    show own_S p e below s₁ (mkF m 1 #[.val (.int (0 : Int32))] [(.int (0 : Int32))]) _
    refine XS.ifNo X0.here hx rfl (hb hby d_method_3_1) rfl ((if0 _ _).trans (teq (rfl : (0 : Int32) = (0 : Int32))).2) ?_
    show own_S p e below s₁ (mkF m 4 #[.val (.int (0 : Int32))] []) _
    refine st2 _ ?_
    show own_S p e below T2 (mkF m 7 #[.val (.int (0 : Int32))] [(.ref w_DOWN)]) _
    jvm_step X2.here [X2.here.top, hx, (hb hby d_method_3_7), X2.method', hret, Value.isRef, FieldType.isReference]
    first | (intro acts; rw [hr _ acts rfl rfl rfl]) | rw [hr _ _ rfl rfl rfl]
    exact Steps.refl _
  · show Qrm1 Z w_DOWN h0 _ T2.heap _
    rw [e2]
    exact ⟨rfl, N0, rfl⟩
def Qrm4 (Z : State) (w_DOWN : Addr) (w_POINTER_DOWN : Addr) (w_POINTER_UP : Addr) (h0 : Heap) (v : Option Value) (h : Heap) (L : List Loc) : Prop := v = some (.int (0 : Int32)) ∧ Fr Z.heap.size L ∧ h = h0
set_option maxRecDepth 65536 in
set_option maxHeartbeats 40000000 in
theorem rm4 (l : Launch) (Z : State) (a0 : Array Value) (hw : ∀ d ∈ tables_1, d.before a0 Z = true) (ws : List Jvm.Cond) (w_DOWN : Addr) (w_POINTER_DOWN : Addr) (w_POINTER_UP : Addr) (h0 : Heap) (Z0 : Ext Z.heap h0) (S_w_POINTER_DOWN : Sta Z Z.heap "com/example/fingerwork/fingerwork/PointerAction" "POINTER_DOWN" "Lcom/example/fingerwork/fingerwork/PointerAction;" (.ref w_POINTER_DOWN)) (S_w_POINTER_UP : Sta Z Z.heap "com/example/fingerwork/fingerwork/PointerAction" "POINTER_UP" "Lcom/example/fingerwork/fingerwork/PointerAction;" (.ref w_POINTER_UP)) (hc2 : ¬ (w_DOWN = w_POINTER_DOWN)) (hc3 : ¬ (w_DOWN = w_POINTER_UP)) :
    own_met l y_1 prog_17_method_5_code 1 (some .boolean) ws ({ frames := 0, cells := 0, slots := 0, locals := 0 } : Room) Z #[(.ref w_DOWN)] h0 (Qrm4 Z w_DOWN w_POINTER_DOWN w_POINTER_UP h0) := by
  refine own_start (plainFor_of_name pn_1) (fun m => ef_prog_17_method_5_R m w_DOWN) ?_
  intro p e s m below meth c s₁ hx hby hml hown hnm X0 hZ e0 hret hlk
  have N0 := Fr.nil Z.heap.size
  obtain ⟨T5, X5, e5, st5⟩ := getS2 X0 hx hZ hown (host := "") (Or.inl (own_w hw 13 rfl)) Via.refl e0 (S_w_POINTER_DOWN.ext Z0) (g := (mkF m 1 #[.val (.ref w_DOWN)] [(.ref w_DOWN)])) rfl (hb hby d_prog_17_method_5_1)
  obtain ⟨T6, X6, e6, st6⟩ := getS2 X5 hx hZ hown (host := "") (Or.inl (own_w hw 15 rfl)) Via.refl e5 (S_w_POINTER_UP.ext Z0) (g := (mkF m 8 #[.val (.ref w_DOWN)] [(.ref w_DOWN)])) rfl (hb hby d_prog_17_method_5_8)
  obtain ⟨fs, hr, hrun, hended, hW, hsame⟩ := X6.leave (v := some (.int (0 : Int32))) (fun h => by rw [hret] at h; cases h) hlk
  refine ⟨_, _, ?_, hrun, hended, _, _, rfl, ?_, ⟨_, rfl⟩, hW, hsame.mono (by decide) (by decide)⟩
  · show own_S p e below s₁ (mkF m 0 #[.val (.ref w_DOWN)] []) _
    refine XS.aloadN X0.here hx rfl (hb hby d_prog_17_method_5_0) rfl rfl ?_
    show own_S p e below s₁ (mkF m 1 #[.val (.ref w_DOWN)] [(.ref w_DOWN)]) _
    refine st5 _ ?_
    show own_S p e below T5 (mkF m 4 #[.val (.ref w_DOWN)] [(.ref w_POINTER_DOWN), (.ref w_DOWN)]) _
    refine Jvm.RoadKit.acmp (g := (mkF m 4 #[.val (.ref w_DOWN)] [(.ref w_POINTER_DOWN), (.ref w_DOWN)])) X5 hx rfl rfl rfl (pc0 := 4) (pc' := 7) (same := false) rfl (hb hby d_prog_17_method_5_4) rfl (decide_eq_false fun q => hc2 (Value.ref.inj q)) (by decide) (by decide) ?_
    show own_S p e below T5 (mkF m 7 #[.val (.ref w_DOWN)] []) _
    refine XS.aloadN X5.here hx rfl (hb hby d_prog_17_method_5_7) rfl rfl ?_
    show own_S p e below T5 (mkF m 8 #[.val (.ref w_DOWN)] [(.ref w_DOWN)]) _
    refine st6 _ ?_
    show own_S p e below T6 (mkF m 11 #[.val (.ref w_DOWN)] [(.ref w_POINTER_UP), (.ref w_DOWN)]) _
    refine Jvm.RoadKit.acmp (g := (mkF m 11 #[.val (.ref w_DOWN)] [(.ref w_POINTER_UP), (.ref w_DOWN)])) X6 hx rfl rfl rfl (pc0 := 11) (pc' := 18) (same := false) rfl (hb hby d_prog_17_method_5_11) rfl (decide_eq_false fun q => hc3 (Value.ref.inj q)) (by decide) (by decide) ?_
    show own_S p e below T6 (mkF m 18 #[.val (.ref w_DOWN)] []) _
    refine XS.iconst X6.here hx rfl (hb hby d_prog_17_method_5_18) ?_
    show own_S p e below T6 (mkF m 19 #[.val (.ref w_DOWN)] [(.int (0 : Int32))]) _
    exact retN X6 hx (t := .boolean) hret (by simp) (hb hby d_prog_17_method_5_19) hr
  · show Qrm4 Z w_DOWN w_POINTER_DOWN w_POINTER_UP h0 _ T6.heap _
    rw [e6]
    exact ⟨rfl, N0, rfl⟩
def Qrm0_0 (Z : State) (w_DOWN : Addr) (w_POINTER_DOWN : Addr) (w_POINTER_UP : Addr) (p1 : Int32) (h0 : Heap) (v : Option Value) (h : Heap) (L : List Loc) : Prop := v = some (.int 1) ∧ Fr Z.heap.size L
set_option maxRecDepth 65536 in
set_option maxHeartbeats 40000000 in
theorem rm0_0 (l : Launch) (Z : State) (a0 : Array Value) (hw : ∀ d ∈ tables_1, d.before a0 Z = true) (ws : List Jvm.Cond) (w_DOWN : Addr) (w_POINTER_DOWN : Addr) (w_POINTER_UP : Addr) (p1 : Int32) (h0 : Heap) (Z0 : Ext Z.heap h0) (S_w_DOWN : Sta Z Z.heap "com/example/fingerwork/fingerwork/PointerAction" "DOWN" "Lcom/example/fingerwork/fingerwork/PointerAction;" (.ref w_DOWN)) (E_w_DOWN : Exa Z Z.heap w_DOWN "com/example/fingerwork/fingerwork/PointerAction") (S_w_POINTER_DOWN : Sta Z Z.heap "com/example/fingerwork/fingerwork/PointerAction" "POINTER_DOWN" "Lcom/example/fingerwork/fingerwork/PointerAction;" (.ref w_POINTER_DOWN)) (S_w_POINTER_UP : Sta Z Z.heap "com/example/fingerwork/fingerwork/PointerAction" "POINTER_UP" "Lcom/example/fingerwork/fingerwork/PointerAction;" (.ref w_POINTER_UP)) (hc1 : ((p1 &&& (2147483647 : Int32)) % (6 : Int32)) = (0 : Int32)) (hc2 : ¬ (w_DOWN = w_POINTER_DOWN)) (hc3 : ¬ (w_DOWN = w_POINTER_UP)) :
    own_met l x code maxLocals ret ws room_1 Z #[(.int p1)] h0 (Qrm0_0 Z w_DOWN w_POINTER_DOWN w_POINTER_UP p1 h0) := by
  refine own_start (plainFor_of_name pn_0) (fun m => ef_code_I m p1) ?_
  intro p e s m below meth c s₁ hx hby hml hown hnm X0 hZ e0 hret hlk
  have N0 := Fr.nil Z.heap.size
  obtain ⟨_, T3, Lc3, X3, hQ3, st3⟩ := own_static (y := y_0) X0 hx hZ hown (own_w hw 1 rfl) (own_w hw 2 rfl) (own_w hw 3 rfl) (own_w hw 4 rfl) (by decide) (rm1 l Z a0 hw [] w_DOWN h0 Z0 S_w_DOWN) (by decide) (by decide) e0 (g := (mkF m 9 #[.val (.int p1), .val (.int (0 : Int32)), .unset, .unset] [(.int (0 : Int32))])) rfl (by rw [hml]; rfl) (argsL := [(.int (0 : Int32))]) (rest := []) (lenOf pd_0 rfl) rfl rfl (W := 0) (by show 2 * 0 + _ ≤ _; exact Nat.le_of_eq rfl) (hb hby at_9) (by decide) (by decide)
  obtain ⟨rfl, N3q, e3⟩ := hQ3
  have N3 := Fr.app N0 N3q
  obtain ⟨_, T7, Lc7, X7, hQ7, st7⟩ := own_virtual (y := y_1) X3 hx hZ hown (own_w hw 8 rfl) (own_w hw 9 rfl) (own_w hw 11 rfl) (own_w hw 10 rfl) (own_w hw 6 rfl) (own_w hw 12 rfl) (by decide) (rm4 l Z a0 hw [] w_DOWN w_POINTER_DOWN w_POINTER_UP h0 Z0 S_w_POINTER_DOWN S_w_POINTER_UP hc2 hc3) (by decide) (by decide) e3 (E_w_DOWN.ext Z0) (g := (mkF m 30 #[.val (.int p1), .val (.int (0 : Int32)), .val (.ref w_DOWN), .val (.int (0 : Int32))] [(.ref w_DOWN)])) rfl (by rw [hml]; rfl) (argsL := []) (rest := []) (lenOf pd_1 rfl) rfl rfl (W := 0) (by show 2 * 0 + _ ≤ _; exact Nat.le_of_eq rfl) (hb hby at_30) (by decide) (by decide)
  obtain ⟨rfl, N7q, e7⟩ := hQ7
  have N7 := Fr.app N3 N7q
  obtain ⟨fs, hr, hrun, hended, hW, hsame⟩ := X7.leave (v := some (.int (1 : Int32))) (fun h => by rw [hret] at h; cases h) hlk
  refine ⟨_, _, ?_, hrun, hended, _, _, rfl, ?_, ⟨_, rfl⟩, hW, hsame.mono (by decide) (by decide)⟩
  · show own_S p e below s₁ (mkF m 0 #[.val (.int p1), .unset, .unset, .unset] []) _
    refine XS.iloadN X0.here hx rfl (hb hby at_0) rfl ?_
    show own_S p e below s₁ (mkF m 1 #[.val (.int p1), .unset, .unset, .unset] [(.int p1)]) _
    refine X0.ldcInt hx hown (mvT hZ (own_w hw 0 rfl)) (g := (mkF m 1 #[.val (.int p1), .unset, .unset, .unset] [(.int p1)])) rfl (hb hby at_1) _ ?_
    show own_S p e below s₁ (mkF m 3 #[.val (.int p1), .unset, .unset, .unset] [(.int (2147483647 : Int32)), (.int p1)]) _
    refine XS.iand X0.here hx rfl (hb hby at_3) rfl ?_
    show own_S p e below s₁ (mkF m 4 #[.val (.int p1), .unset, .unset, .unset] [(.int (p1 &&& (2147483647 : Int32)))]) _
    refine XS.bipush X0.here hx rfl (hb hby at_4) ?_
    show own_S p e below s₁ (mkF m 6 #[.val (.int p1), .unset, .unset, .unset] [(.int (6 : Int32)), (.int (p1 &&& (2147483647 : Int32)))]) _
    refine iremM X0 hx rfl (hb hby at_6) rfl (by decide) ?_
    show own_S p e below s₁ (mkF m 7 #[.val (.int p1), .unset, .unset, .unset] [(.int ((p1 &&& (2147483647 : Int32)) % (6 : Int32)))]) _
    rw [hc1]
    show own_S p e below s₁ (mkF m 7 #[.val (.int p1), .unset, .unset, .unset] [(.int (0 : Int32))]) _
    refine XS.istoreN X0.here hx rfl (hb hby at_7) rfl (l' := #[.val (.int p1), .val (.int (0 : Int32)), .unset, .unset]) rfl ?_
    show own_S p e below s₁ (mkF m 8 #[.val (.int p1), .val (.int (0 : Int32)), .unset, .unset] []) _
    refine XS.iloadN X0.here hx rfl (hb hby at_8) rfl ?_
    show own_S p e below s₁ (mkF m 9 #[.val (.int p1), .val (.int (0 : Int32)), .unset, .unset] [(.int (0 : Int32))]) _
    refine st3 _ ?_
    show own_S p e below T3 (mkF m 12 #[.val (.int p1), .val (.int (0 : Int32)), .unset, .unset] [(.ref w_DOWN)]) _
    refine XS.astoreN X3.here hx rfl (hb hby at_12) rfl rfl (l' := #[.val (.int p1), .val (.int (0 : Int32)), .val (.ref w_DOWN), .unset]) rfl ?_
    show own_S p e below T3 (mkF m 13 #[.val (.int p1), .val (.int (0 : Int32)), .val (.ref w_DOWN), .unset] []) _
    refine XS.iloadN X3.here hx rfl (hb hby at_13) rfl ?_
    show own_S p e below T3 (mkF m 14 #[.val (.int p1), .val (.int (0 : Int32)), .val (.ref w_DOWN), .unset] [(.int (0 : Int32))]) _
    refine XS.iconst X3.here hx rfl (hb hby at_14) ?_
    show own_S p e below T3 (mkF m 15 #[.val (.int p1), .val (.int (0 : Int32)), .val (.ref w_DOWN), .unset] [(.int (1 : Int32)), (.int (0 : Int32))]) _
    refine XS.icmpNo X3.here hx rfl (hb hby at_15) rfl (feq (by decide : ¬ ((0 : Int32) = (1 : Int32)))).1 ?_
    show own_S p e below T3 (mkF m 18 #[.val (.int p1), .val (.int (0 : Int32)), .val (.ref w_DOWN), .unset] []) _
    refine XS.iloadN X3.here hx rfl (hb hby at_18) rfl ?_
    show own_S p e below T3 (mkF m 19 #[.val (.int p1), .val (.int (0 : Int32)), .val (.ref w_DOWN), .unset] [(.int (0 : Int32))]) _
    refine XS.iconst X3.here hx rfl (hb hby at_19) ?_
    show own_S p e below T3 (mkF m 20 #[.val (.int p1), .val (.int (0 : Int32)), .val (.ref w_DOWN), .unset] [(.int (3 : Int32)), (.int (0 : Int32))]) _
    refine XS.icmpYes X3.here hx rfl (pc0 := 20) (pc' := 27) rfl (hb hby at_20) rfl (feq (by decide : ¬ ((0 : Int32) = (3 : Int32)))).2 (by decide) (by decide) ?_
    show own_S p e below T3 (mkF m 27 #[.val (.int p1), .val (.int (0 : Int32)), .val (.ref w_DOWN), .unset] []) _
    refine XS.iconst X3.here hx rfl (hb hby at_27) ?_
    show own_S p e below T3 (mkF m 28 #[.val (.int p1), .val (.int (0 : Int32)), .val (.ref w_DOWN), .unset] [(.int (0 : Int32))]) _
    refine XS.istoreN X3.here hx rfl (hb hby at_28) rfl (l' := #[.val (.int p1), .val (.int (0 : Int32)), .val (.ref w_DOWN), .val (.int (0 : Int32))]) rfl ?_
    show own_S p e below T3 (mkF m 29 #[.val (.int p1), .val (.int (0 : Int32)), .val (.ref w_DOWN), .val (.int (0 : Int32))] []) _
    refine XS.aloadN X3.here hx rfl (hb hby at_29) rfl rfl ?_
    show own_S p e below T3 (mkF m 30 #[.val (.int p1), .val (.int (0 : Int32)), .val (.ref w_DOWN), .val (.int (0 : Int32))] [(.ref w_DOWN)]) _
    refine st7 _ ?_
    show own_S p e below T7 (mkF m 33 #[.val (.int p1), .val (.int (0 : Int32)), .val (.ref w_DOWN), .val (.int (0 : Int32))] [(.int (0 : Int32))]) _
    refine XS.iloadN X7.here hx rfl (hb hby at_33) rfl ?_
    show own_S p e below T7 (mkF m 34 #[.val (.int p1), .val (.int (0 : Int32)), .val (.ref w_DOWN), .val (.int (0 : Int32))] [(.int (0 : Int32)), (.int (0 : Int32))]) _
    refine XS.icmpNo X7.here hx rfl (hb hby at_34) rfl (teq (rfl : (0 : Int32) = (0 : Int32))).2 ?_
    show own_S p e below T7 (mkF m 37 #[.val (.int p1), .val (.int (0 : Int32)), .val (.ref w_DOWN), .val (.int (0 : Int32))] []) _
    refine XS.iconst X7.here hx rfl (hb hby at_37) ?_
    show own_S p e below T7 (mkF m 38 #[.val (.int p1), .val (.int (0 : Int32)), .val (.ref w_DOWN), .val (.int (0 : Int32))] [(.int (1 : Int32))]) _
    refine XS.goto X7.here hx rfl (pc0 := 38) (pc' := 42) rfl (hb hby at_38) (by decide) (by decide) ?_
    show own_S p e below T7 (mkF m 42 #[.val (.int p1), .val (.int (0 : Int32)), .val (.ref w_DOWN), .val (.int (0 : Int32))] [(.int (1 : Int32))]) _
    exact retN X7 hx (t := .boolean) hret (by simp) (hb hby at_42) hr
  · show Qrm0_0 Z w_DOWN w_POINTER_DOWN w_POINTER_UP p1 h0 _ T7.heap _
    exact ⟨rfl, N7⟩
def Qrm8 (Z : State) (w_POINTER_DOWN : Addr) (h0 : Heap) (v : Option Value) (h : Heap) (L : List Loc) : Prop := v = some (.ref w_POINTER_DOWN) ∧ Fr Z.heap.size L ∧ h = h0
set_option maxRecDepth 65536 in
set_option maxHeartbeats 40000000 in
theorem rm8 (l : Launch) (Z : State) (a0 : Array Value) (hw : ∀ d ∈ tables_1, d.before a0 Z = true) (ws : List Jvm.Cond) (w_POINTER_DOWN : Addr) (h0 : Heap) (Z0 : Ext Z.heap h0) (S_w_POINTER_DOWN : Sta Z Z.heap "com/example/fingerwork/fingerwork/PointerAction" "POINTER_DOWN" "Lcom/example/fingerwork/fingerwork/PointerAction;" (.ref w_POINTER_DOWN)) :
    own_met l y_0 method_3_code 1 (some (.object "com/example/fingerwork/fingerwork/PointerAction")) ws ({ frames := 0, cells := 0, slots := 0, locals := 0 } : Room) Z #[(.int (1 : Int32))] h0 (Qrm8 Z w_POINTER_DOWN h0) := by
  refine own_start (plainFor_of_name pn_0) (fun m => ef_method_3_I m (1 : Int32)) ?_
  intro p e s m below meth c s₁ hx hby hml hown hnm X0 hZ e0 hret hlk
  have N0 := Fr.nil Z.heap.size
  obtain ⟨T9, X9, e9, st9⟩ := getS2 X0 hx hZ hown (host := "") (Or.inl (own_w hw 20 rfl)) Via.refl e0 (S_w_POINTER_DOWN.ext Z0) (g := (mkF m 13 #[.val (.int (1 : Int32))] [])) rfl (hb hby d_method_3_13)
  obtain ⟨fs, hr, hrun, hended, hW, hsame⟩ := X9.leave (v := some (.ref w_POINTER_DOWN)) (fun h => by rw [hret] at h; cases h) hlk
  refine ⟨_, _, ?_, hrun, hended, _, _, rfl, ?_, ⟨_, rfl⟩, hW, hsame.mono (by decide) (by decide)⟩
  · show own_S p e below s₁ (mkF m 0 #[.val (.int (1 : Int32))] []) _
    refine XS.iloadN X0.here hx rfl (hb hby d_method_3_0) rfl ?_
    show own_S p e below s₁ (mkF m 1 #[.val (.int (1 : Int32))] [(.int (1 : Int32))]) _
    refine XS.ifYes X0.here hx rfl (pc0 := 1) (pc' := 8) rfl (hb hby d_method_3_1) rfl ((if0 _ _).trans (feq (by decide : ¬ ((1 : Int32) = (0 : Int32)))).2) (by decide) (by decide) ?_
    show own_S p e below s₁ (mkF m 8 #[.val (.int (1 : Int32))] []) _
    refine XS.iloadN X0.here hx rfl (hb hby d_method_3_8) rfl ?_
    show own_S p e below s₁ (mkF m 9 #[.val (.int (1 : Int32))] [(.int (1 : Int32))]) _
    refine XS.iconst X0.here hx rfl (hb hby d_method_3_9) ?_
    show own_S p e below s₁ (mkF m 10 #[.val (.int (1 : Int32))] [(.int (1 : Int32)), (.int (1 : Int32))]) _
    refine XS.icmpNo X0.here hx rfl (hb hby d_method_3_10) rfl (teq (rfl : (1 : Int32) = (1 : Int32))).2 ?_
    show own_S p e below s₁ (mkF m 13 #[.val (.int (1 : Int32))] []) _
    refine st9 _ ?_
    show own_S p e below T9 (mkF m 16 #[.val (.int (1 : Int32))] [(.ref w_POINTER_DOWN)]) _
    jvm_step X9.here [X9.here.top, hx, (hb hby d_method_3_16), X9.method', hret, Value.isRef, FieldType.isReference]
    first | (intro acts; rw [hr _ acts rfl rfl rfl]) | rw [hr _ _ rfl rfl rfl]
    exact Steps.refl _
  · show Qrm8 Z w_POINTER_DOWN h0 _ T9.heap _
    rw [e9]
    exact ⟨rfl, N0, rfl⟩
def Qrm11 (Z : State) (w_POINTER_DOWN : Addr) (h0 : Heap) (v : Option Value) (h : Heap) (L : List Loc) : Prop := v = some (.int (1 : Int32)) ∧ Fr Z.heap.size L ∧ h = h0
set_option maxRecDepth 65536 in
set_option maxHeartbeats 40000000 in
theorem rm11 (l : Launch) (Z : State) (a0 : Array Value) (hw : ∀ d ∈ tables_1, d.before a0 Z = true) (ws : List Jvm.Cond) (w_POINTER_DOWN : Addr) (h0 : Heap) (Z0 : Ext Z.heap h0) (S_w_POINTER_DOWN : Sta Z Z.heap "com/example/fingerwork/fingerwork/PointerAction" "POINTER_DOWN" "Lcom/example/fingerwork/fingerwork/PointerAction;" (.ref w_POINTER_DOWN)) :
    own_met l y_1 prog_17_method_5_code 1 (some .boolean) ws ({ frames := 0, cells := 0, slots := 0, locals := 0 } : Room) Z #[(.ref w_POINTER_DOWN)] h0 (Qrm11 Z w_POINTER_DOWN h0) := by
  refine own_start (plainFor_of_name pn_1) (fun m => ef_prog_17_method_5_R m w_POINTER_DOWN) ?_
  intro p e s m below meth c s₁ hx hby hml hown hnm X0 hZ e0 hret hlk
  have N0 := Fr.nil Z.heap.size
  obtain ⟨T12, X12, e12, st12⟩ := getS2 X0 hx hZ hown (host := "") (Or.inl (own_w hw 13 rfl)) Via.refl e0 (S_w_POINTER_DOWN.ext Z0) (g := (mkF m 1 #[.val (.ref w_POINTER_DOWN)] [(.ref w_POINTER_DOWN)])) rfl (hb hby d_prog_17_method_5_1)
  obtain ⟨fs, hr, hrun, hended, hW, hsame⟩ := X12.leave (v := some (.int (1 : Int32))) (fun h => by rw [hret] at h; cases h) hlk
  refine ⟨_, _, ?_, hrun, hended, _, _, rfl, ?_, ⟨_, rfl⟩, hW, hsame.mono (by decide) (by decide)⟩
  · show own_S p e below s₁ (mkF m 0 #[.val (.ref w_POINTER_DOWN)] []) _
    refine XS.aloadN X0.here hx rfl (hb hby d_prog_17_method_5_0) rfl rfl ?_
    show own_S p e below s₁ (mkF m 1 #[.val (.ref w_POINTER_DOWN)] [(.ref w_POINTER_DOWN)]) _
    refine st12 _ ?_
    show own_S p e below T12 (mkF m 4 #[.val (.ref w_POINTER_DOWN)] [(.ref w_POINTER_DOWN), (.ref w_POINTER_DOWN)]) _
    refine Jvm.RoadKit.acmp (g := (mkF m 4 #[.val (.ref w_POINTER_DOWN)] [(.ref w_POINTER_DOWN), (.ref w_POINTER_DOWN)])) X12 hx rfl rfl rfl (pc0 := 4) (pc' := 14) (same := true) rfl (hb hby d_prog_17_method_5_4) rfl (decide_eq_true rfl) (by decide) (by decide) ?_
    show own_S p e below T12 (mkF m 14 #[.val (.ref w_POINTER_DOWN)] []) _
    refine XS.iconst X12.here hx rfl (hb hby d_prog_17_method_5_14) ?_
    show own_S p e below T12 (mkF m 15 #[.val (.ref w_POINTER_DOWN)] [(.int (1 : Int32))]) _
    refine XS.goto X12.here hx rfl (pc0 := 15) (pc' := 19) rfl (hb hby d_prog_17_method_5_15) (by decide) (by decide) ?_
    show own_S p e below T12 (mkF m 19 #[.val (.ref w_POINTER_DOWN)] [(.int (1 : Int32))]) _
    exact retN X12 hx (t := .boolean) hret (by simp) (hb hby d_prog_17_method_5_19) hr
  · show Qrm11 Z w_POINTER_DOWN h0 _ T12.heap _
    rw [e12]
    exact ⟨rfl, N0, rfl⟩
def Qrm0_1 (Z : State) (w_POINTER_DOWN : Addr) (p1 : Int32) (h0 : Heap) (v : Option Value) (h : Heap) (L : List Loc) : Prop := v = some (.int 1) ∧ Fr Z.heap.size L
set_option maxRecDepth 65536 in
set_option maxHeartbeats 40000000 in
theorem rm0_1 (l : Launch) (Z : State) (a0 : Array Value) (hw : ∀ d ∈ tables_1, d.before a0 Z = true) (ws : List Jvm.Cond) (w_POINTER_DOWN : Addr) (p1 : Int32) (h0 : Heap) (Z0 : Ext Z.heap h0) (S_w_POINTER_DOWN : Sta Z Z.heap "com/example/fingerwork/fingerwork/PointerAction" "POINTER_DOWN" "Lcom/example/fingerwork/fingerwork/PointerAction;" (.ref w_POINTER_DOWN)) (E_w_POINTER_DOWN : Exa Z Z.heap w_POINTER_DOWN "com/example/fingerwork/fingerwork/PointerAction") (hc4 : ((p1 &&& (2147483647 : Int32)) % (6 : Int32)) = (1 : Int32)) :
    own_met l x code maxLocals ret ws room_1 Z #[(.int p1)] h0 (Qrm0_1 Z w_POINTER_DOWN p1 h0) := by
  refine own_start (plainFor_of_name pn_0) (fun m => ef_code_I m p1) ?_
  intro p e s m below meth c s₁ hx hby hml hown hnm X0 hZ e0 hret hlk
  have N0 := Fr.nil Z.heap.size
  obtain ⟨_, T10, Lc10, X10, hQ10, st10⟩ := own_static (y := y_0) X0 hx hZ hown (own_w hw 1 rfl) (own_w hw 2 rfl) (own_w hw 3 rfl) (own_w hw 4 rfl) (by decide) (rm8 l Z a0 hw [] w_POINTER_DOWN h0 Z0 S_w_POINTER_DOWN) (by decide) (by decide) e0 (g := (mkF m 9 #[.val (.int p1), .val (.int (1 : Int32)), .unset, .unset] [(.int (1 : Int32))])) rfl (by rw [hml]; rfl) (argsL := [(.int (1 : Int32))]) (rest := []) (lenOf pd_0 rfl) rfl rfl (W := 0) (by show 2 * 0 + _ ≤ _; exact Nat.le_of_eq rfl) (hb hby at_9) (by decide) (by decide)
  obtain ⟨rfl, N10q, e10⟩ := hQ10
  have N10 := Fr.app N0 N10q
  obtain ⟨_, T13, Lc13, X13, hQ13, st13⟩ := own_virtual (y := y_1) X10 hx hZ hown (own_w hw 8 rfl) (own_w hw 9 rfl) (own_w hw 11 rfl) (own_w hw 10 rfl) (own_w hw 6 rfl) (own_w hw 12 rfl) (by decide) (rm11 l Z a0 hw [] w_POINTER_DOWN h0 Z0 S_w_POINTER_DOWN) (by decide) (by decide) e10 (E_w_POINTER_DOWN.ext Z0) (g := (mkF m 30 #[.val (.int p1), .val (.int (1 : Int32)), .val (.ref w_POINTER_DOWN), .val (.int (1 : Int32))] [(.ref w_POINTER_DOWN)])) rfl (by rw [hml]; rfl) (argsL := []) (rest := []) (lenOf pd_1 rfl) rfl rfl (W := 0) (by show 2 * 0 + _ ≤ _; exact Nat.le_of_eq rfl) (hb hby at_30) (by decide) (by decide)
  obtain ⟨rfl, N13q, e13⟩ := hQ13
  have N13 := Fr.app N10 N13q
  obtain ⟨fs, hr, hrun, hended, hW, hsame⟩ := X13.leave (v := some (.int (1 : Int32))) (fun h => by rw [hret] at h; cases h) hlk
  refine ⟨_, _, ?_, hrun, hended, _, _, rfl, ?_, ⟨_, rfl⟩, hW, hsame.mono (by decide) (by decide)⟩
  · show own_S p e below s₁ (mkF m 0 #[.val (.int p1), .unset, .unset, .unset] []) _
    refine XS.iloadN X0.here hx rfl (hb hby at_0) rfl ?_
    show own_S p e below s₁ (mkF m 1 #[.val (.int p1), .unset, .unset, .unset] [(.int p1)]) _
    refine X0.ldcInt hx hown (mvT hZ (own_w hw 0 rfl)) (g := (mkF m 1 #[.val (.int p1), .unset, .unset, .unset] [(.int p1)])) rfl (hb hby at_1) _ ?_
    show own_S p e below s₁ (mkF m 3 #[.val (.int p1), .unset, .unset, .unset] [(.int (2147483647 : Int32)), (.int p1)]) _
    refine XS.iand X0.here hx rfl (hb hby at_3) rfl ?_
    show own_S p e below s₁ (mkF m 4 #[.val (.int p1), .unset, .unset, .unset] [(.int (p1 &&& (2147483647 : Int32)))]) _
    refine XS.bipush X0.here hx rfl (hb hby at_4) ?_
    show own_S p e below s₁ (mkF m 6 #[.val (.int p1), .unset, .unset, .unset] [(.int (6 : Int32)), (.int (p1 &&& (2147483647 : Int32)))]) _
    refine iremM X0 hx rfl (hb hby at_6) rfl (by decide) ?_
    show own_S p e below s₁ (mkF m 7 #[.val (.int p1), .unset, .unset, .unset] [(.int ((p1 &&& (2147483647 : Int32)) % (6 : Int32)))]) _
    rw [hc4]
    show own_S p e below s₁ (mkF m 7 #[.val (.int p1), .unset, .unset, .unset] [(.int (1 : Int32))]) _
    refine XS.istoreN X0.here hx rfl (hb hby at_7) rfl (l' := #[.val (.int p1), .val (.int (1 : Int32)), .unset, .unset]) rfl ?_
    show own_S p e below s₁ (mkF m 8 #[.val (.int p1), .val (.int (1 : Int32)), .unset, .unset] []) _
    refine XS.iloadN X0.here hx rfl (hb hby at_8) rfl ?_
    show own_S p e below s₁ (mkF m 9 #[.val (.int p1), .val (.int (1 : Int32)), .unset, .unset] [(.int (1 : Int32))]) _
    refine st10 _ ?_
    show own_S p e below T10 (mkF m 12 #[.val (.int p1), .val (.int (1 : Int32)), .unset, .unset] [(.ref w_POINTER_DOWN)]) _
    refine XS.astoreN X10.here hx rfl (hb hby at_12) rfl rfl (l' := #[.val (.int p1), .val (.int (1 : Int32)), .val (.ref w_POINTER_DOWN), .unset]) rfl ?_
    show own_S p e below T10 (mkF m 13 #[.val (.int p1), .val (.int (1 : Int32)), .val (.ref w_POINTER_DOWN), .unset] []) _
    refine XS.iloadN X10.here hx rfl (hb hby at_13) rfl ?_
    show own_S p e below T10 (mkF m 14 #[.val (.int p1), .val (.int (1 : Int32)), .val (.ref w_POINTER_DOWN), .unset] [(.int (1 : Int32))]) _
    refine XS.iconst X10.here hx rfl (hb hby at_14) ?_
    show own_S p e below T10 (mkF m 15 #[.val (.int p1), .val (.int (1 : Int32)), .val (.ref w_POINTER_DOWN), .unset] [(.int (1 : Int32)), (.int (1 : Int32))]) _
    refine XS.icmpYes X10.here hx rfl (pc0 := 15) (pc' := 23) rfl (hb hby at_15) rfl (teq (rfl : (1 : Int32) = (1 : Int32))).1 (by decide) (by decide) ?_
    show own_S p e below T10 (mkF m 23 #[.val (.int p1), .val (.int (1 : Int32)), .val (.ref w_POINTER_DOWN), .unset] []) _
    refine XS.iconst X10.here hx rfl (hb hby at_23) ?_
    show own_S p e below T10 (mkF m 24 #[.val (.int p1), .val (.int (1 : Int32)), .val (.ref w_POINTER_DOWN), .unset] [(.int (1 : Int32))]) _
    refine XS.goto X10.here hx rfl (pc0 := 24) (pc' := 28) rfl (hb hby at_24) (by decide) (by decide) ?_
    show own_S p e below T10 (mkF m 28 #[.val (.int p1), .val (.int (1 : Int32)), .val (.ref w_POINTER_DOWN), .unset] [(.int (1 : Int32))]) _
    refine XS.istoreN X10.here hx rfl (hb hby at_28) rfl (l' := #[.val (.int p1), .val (.int (1 : Int32)), .val (.ref w_POINTER_DOWN), .val (.int (1 : Int32))]) rfl ?_
    show own_S p e below T10 (mkF m 29 #[.val (.int p1), .val (.int (1 : Int32)), .val (.ref w_POINTER_DOWN), .val (.int (1 : Int32))] []) _
    refine XS.aloadN X10.here hx rfl (hb hby at_29) rfl rfl ?_
    show own_S p e below T10 (mkF m 30 #[.val (.int p1), .val (.int (1 : Int32)), .val (.ref w_POINTER_DOWN), .val (.int (1 : Int32))] [(.ref w_POINTER_DOWN)]) _
    refine st13 _ ?_
    show own_S p e below T13 (mkF m 33 #[.val (.int p1), .val (.int (1 : Int32)), .val (.ref w_POINTER_DOWN), .val (.int (1 : Int32))] [(.int (1 : Int32))]) _
    refine XS.iloadN X13.here hx rfl (hb hby at_33) rfl ?_
    show own_S p e below T13 (mkF m 34 #[.val (.int p1), .val (.int (1 : Int32)), .val (.ref w_POINTER_DOWN), .val (.int (1 : Int32))] [(.int (1 : Int32)), (.int (1 : Int32))]) _
    refine XS.icmpNo X13.here hx rfl (hb hby at_34) rfl (teq (rfl : (1 : Int32) = (1 : Int32))).2 ?_
    show own_S p e below T13 (mkF m 37 #[.val (.int p1), .val (.int (1 : Int32)), .val (.ref w_POINTER_DOWN), .val (.int (1 : Int32))] []) _
    refine XS.iconst X13.here hx rfl (hb hby at_37) ?_
    show own_S p e below T13 (mkF m 38 #[.val (.int p1), .val (.int (1 : Int32)), .val (.ref w_POINTER_DOWN), .val (.int (1 : Int32))] [(.int (1 : Int32))]) _
    refine XS.goto X13.here hx rfl (pc0 := 38) (pc' := 42) rfl (hb hby at_38) (by decide) (by decide) ?_
    show own_S p e below T13 (mkF m 42 #[.val (.int p1), .val (.int (1 : Int32)), .val (.ref w_POINTER_DOWN), .val (.int (1 : Int32))] [(.int (1 : Int32))]) _
    exact retN X13 hx (t := .boolean) hret (by simp) (hb hby at_42) hr
  · show Qrm0_1 Z w_POINTER_DOWN p1 h0 _ T13.heap _
    exact ⟨rfl, N13⟩
def Qrm14 (Z : State) (w_MOVE : Addr) (h0 : Heap) (v : Option Value) (h : Heap) (L : List Loc) : Prop := v = some (.ref w_MOVE) ∧ Fr Z.heap.size L ∧ h = h0
set_option maxRecDepth 65536 in
set_option maxHeartbeats 40000000 in
theorem rm14 (l : Launch) (Z : State) (a0 : Array Value) (hw : ∀ d ∈ tables_1, d.before a0 Z = true) (ws : List Jvm.Cond) (w_MOVE : Addr) (h0 : Heap) (Z0 : Ext Z.heap h0) (S_w_MOVE : Sta Z Z.heap "com/example/fingerwork/fingerwork/PointerAction" "MOVE" "Lcom/example/fingerwork/fingerwork/PointerAction;" (.ref w_MOVE)) :
    own_met l y_0 method_3_code 1 (some (.object "com/example/fingerwork/fingerwork/PointerAction")) ws ({ frames := 0, cells := 0, slots := 0, locals := 0 } : Room) Z #[(.int (2 : Int32))] h0 (Qrm14 Z w_MOVE h0) := by
  refine own_start (plainFor_of_name pn_0) (fun m => ef_method_3_I m (2 : Int32)) ?_
  intro p e s m below meth c s₁ hx hby hml hown hnm X0 hZ e0 hret hlk
  have N0 := Fr.nil Z.heap.size
  obtain ⟨T15, X15, e15, st15⟩ := getS2 X0 hx hZ hown (host := "") (Or.inl (own_w hw 18 rfl)) Via.refl e0 (S_w_MOVE.ext Z0) (g := (mkF m 22 #[.val (.int (2 : Int32))] [])) rfl (hb hby d_method_3_22)
  obtain ⟨fs, hr, hrun, hended, hW, hsame⟩ := X15.leave (v := some (.ref w_MOVE)) (fun h => by rw [hret] at h; cases h) hlk
  refine ⟨_, _, ?_, hrun, hended, _, _, rfl, ?_, ⟨_, rfl⟩, hW, hsame.mono (by decide) (by decide)⟩
  · show own_S p e below s₁ (mkF m 0 #[.val (.int (2 : Int32))] []) _
    refine XS.iloadN X0.here hx rfl (hb hby d_method_3_0) rfl ?_
    show own_S p e below s₁ (mkF m 1 #[.val (.int (2 : Int32))] [(.int (2 : Int32))]) _
    refine XS.ifYes X0.here hx rfl (pc0 := 1) (pc' := 8) rfl (hb hby d_method_3_1) rfl ((if0 _ _).trans (feq (by decide : ¬ ((2 : Int32) = (0 : Int32)))).2) (by decide) (by decide) ?_
    show own_S p e below s₁ (mkF m 8 #[.val (.int (2 : Int32))] []) _
    refine XS.iloadN X0.here hx rfl (hb hby d_method_3_8) rfl ?_
    show own_S p e below s₁ (mkF m 9 #[.val (.int (2 : Int32))] [(.int (2 : Int32))]) _
    refine XS.iconst X0.here hx rfl (hb hby d_method_3_9) ?_
    show own_S p e below s₁ (mkF m 10 #[.val (.int (2 : Int32))] [(.int (1 : Int32)), (.int (2 : Int32))]) _
    refine XS.icmpYes X0.here hx rfl (pc0 := 10) (pc' := 17) rfl (hb hby d_method_3_10) rfl (feq (by decide : ¬ ((2 : Int32) = (1 : Int32)))).2 (by decide) (by decide) ?_
    show own_S p e below s₁ (mkF m 17 #[.val (.int (2 : Int32))] []) _
    refine XS.iloadN X0.here hx rfl (hb hby d_method_3_17) rfl ?_
    show own_S p e below s₁ (mkF m 18 #[.val (.int (2 : Int32))] [(.int (2 : Int32))]) _
    refine XS.iconst X0.here hx rfl (hb hby d_method_3_18) ?_
    show own_S p e below s₁ (mkF m 19 #[.val (.int (2 : Int32))] [(.int (2 : Int32)), (.int (2 : Int32))]) _
    refine XS.icmpNo X0.here hx rfl (hb hby d_method_3_19) rfl (teq (rfl : (2 : Int32) = (2 : Int32))).2 ?_
    show own_S p e below s₁ (mkF m 22 #[.val (.int (2 : Int32))] []) _
    refine st15 _ ?_
    show own_S p e below T15 (mkF m 25 #[.val (.int (2 : Int32))] [(.ref w_MOVE)]) _
    jvm_step X15.here [X15.here.top, hx, (hb hby d_method_3_25), X15.method', hret, Value.isRef, FieldType.isReference]
    first | (intro acts; rw [hr _ acts rfl rfl rfl]) | rw [hr _ _ rfl rfl rfl]
    exact Steps.refl _
  · show Qrm14 Z w_MOVE h0 _ T15.heap _
    rw [e15]
    exact ⟨rfl, N0, rfl⟩
def Qrm17 (Z : State) (w_POINTER_DOWN : Addr) (w_POINTER_UP : Addr) (w_MOVE : Addr) (h0 : Heap) (v : Option Value) (h : Heap) (L : List Loc) : Prop := v = some (.int (0 : Int32)) ∧ Fr Z.heap.size L ∧ h = h0
set_option maxRecDepth 65536 in
set_option maxHeartbeats 40000000 in
theorem rm17 (l : Launch) (Z : State) (a0 : Array Value) (hw : ∀ d ∈ tables_1, d.before a0 Z = true) (ws : List Jvm.Cond) (w_POINTER_DOWN : Addr) (w_POINTER_UP : Addr) (w_MOVE : Addr) (h0 : Heap) (Z0 : Ext Z.heap h0) (S_w_POINTER_DOWN : Sta Z Z.heap "com/example/fingerwork/fingerwork/PointerAction" "POINTER_DOWN" "Lcom/example/fingerwork/fingerwork/PointerAction;" (.ref w_POINTER_DOWN)) (S_w_POINTER_UP : Sta Z Z.heap "com/example/fingerwork/fingerwork/PointerAction" "POINTER_UP" "Lcom/example/fingerwork/fingerwork/PointerAction;" (.ref w_POINTER_UP)) (hc6 : ¬ (w_MOVE = w_POINTER_DOWN)) (hc7 : ¬ (w_MOVE = w_POINTER_UP)) :
    own_met l y_1 prog_17_method_5_code 1 (some .boolean) ws ({ frames := 0, cells := 0, slots := 0, locals := 0 } : Room) Z #[(.ref w_MOVE)] h0 (Qrm17 Z w_POINTER_DOWN w_POINTER_UP w_MOVE h0) := by
  refine own_start (plainFor_of_name pn_1) (fun m => ef_prog_17_method_5_R m w_MOVE) ?_
  intro p e s m below meth c s₁ hx hby hml hown hnm X0 hZ e0 hret hlk
  have N0 := Fr.nil Z.heap.size
  obtain ⟨T18, X18, e18, st18⟩ := getS2 X0 hx hZ hown (host := "") (Or.inl (own_w hw 13 rfl)) Via.refl e0 (S_w_POINTER_DOWN.ext Z0) (g := (mkF m 1 #[.val (.ref w_MOVE)] [(.ref w_MOVE)])) rfl (hb hby d_prog_17_method_5_1)
  obtain ⟨T19, X19, e19, st19⟩ := getS2 X18 hx hZ hown (host := "") (Or.inl (own_w hw 15 rfl)) Via.refl e18 (S_w_POINTER_UP.ext Z0) (g := (mkF m 8 #[.val (.ref w_MOVE)] [(.ref w_MOVE)])) rfl (hb hby d_prog_17_method_5_8)
  obtain ⟨fs, hr, hrun, hended, hW, hsame⟩ := X19.leave (v := some (.int (0 : Int32))) (fun h => by rw [hret] at h; cases h) hlk
  refine ⟨_, _, ?_, hrun, hended, _, _, rfl, ?_, ⟨_, rfl⟩, hW, hsame.mono (by decide) (by decide)⟩
  · show own_S p e below s₁ (mkF m 0 #[.val (.ref w_MOVE)] []) _
    refine XS.aloadN X0.here hx rfl (hb hby d_prog_17_method_5_0) rfl rfl ?_
    show own_S p e below s₁ (mkF m 1 #[.val (.ref w_MOVE)] [(.ref w_MOVE)]) _
    refine st18 _ ?_
    show own_S p e below T18 (mkF m 4 #[.val (.ref w_MOVE)] [(.ref w_POINTER_DOWN), (.ref w_MOVE)]) _
    refine Jvm.RoadKit.acmp (g := (mkF m 4 #[.val (.ref w_MOVE)] [(.ref w_POINTER_DOWN), (.ref w_MOVE)])) X18 hx rfl rfl rfl (pc0 := 4) (pc' := 7) (same := false) rfl (hb hby d_prog_17_method_5_4) rfl (decide_eq_false fun q => hc6 (Value.ref.inj q)) (by decide) (by decide) ?_
    show own_S p e below T18 (mkF m 7 #[.val (.ref w_MOVE)] []) _
    refine XS.aloadN X18.here hx rfl (hb hby d_prog_17_method_5_7) rfl rfl ?_
    show own_S p e below T18 (mkF m 8 #[.val (.ref w_MOVE)] [(.ref w_MOVE)]) _
    refine st19 _ ?_
    show own_S p e below T19 (mkF m 11 #[.val (.ref w_MOVE)] [(.ref w_POINTER_UP), (.ref w_MOVE)]) _
    refine Jvm.RoadKit.acmp (g := (mkF m 11 #[.val (.ref w_MOVE)] [(.ref w_POINTER_UP), (.ref w_MOVE)])) X19 hx rfl rfl rfl (pc0 := 11) (pc' := 18) (same := false) rfl (hb hby d_prog_17_method_5_11) rfl (decide_eq_false fun q => hc7 (Value.ref.inj q)) (by decide) (by decide) ?_
    show own_S p e below T19 (mkF m 18 #[.val (.ref w_MOVE)] []) _
    refine XS.iconst X19.here hx rfl (hb hby d_prog_17_method_5_18) ?_
    show own_S p e below T19 (mkF m 19 #[.val (.ref w_MOVE)] [(.int (0 : Int32))]) _
    exact retN X19 hx (t := .boolean) hret (by simp) (hb hby d_prog_17_method_5_19) hr
  · show Qrm17 Z w_POINTER_DOWN w_POINTER_UP w_MOVE h0 _ T19.heap _
    rw [e19]
    exact ⟨rfl, N0, rfl⟩
def Qrm0_2 (Z : State) (w_POINTER_DOWN : Addr) (w_POINTER_UP : Addr) (w_MOVE : Addr) (p1 : Int32) (h0 : Heap) (v : Option Value) (h : Heap) (L : List Loc) : Prop := v = some (.int 1) ∧ Fr Z.heap.size L
set_option maxRecDepth 65536 in
set_option maxHeartbeats 40000000 in
theorem rm0_2 (l : Launch) (Z : State) (a0 : Array Value) (hw : ∀ d ∈ tables_1, d.before a0 Z = true) (ws : List Jvm.Cond) (w_POINTER_DOWN : Addr) (w_POINTER_UP : Addr) (w_MOVE : Addr) (p1 : Int32) (h0 : Heap) (Z0 : Ext Z.heap h0) (S_w_MOVE : Sta Z Z.heap "com/example/fingerwork/fingerwork/PointerAction" "MOVE" "Lcom/example/fingerwork/fingerwork/PointerAction;" (.ref w_MOVE)) (E_w_MOVE : Exa Z Z.heap w_MOVE "com/example/fingerwork/fingerwork/PointerAction") (S_w_POINTER_DOWN : Sta Z Z.heap "com/example/fingerwork/fingerwork/PointerAction" "POINTER_DOWN" "Lcom/example/fingerwork/fingerwork/PointerAction;" (.ref w_POINTER_DOWN)) (S_w_POINTER_UP : Sta Z Z.heap "com/example/fingerwork/fingerwork/PointerAction" "POINTER_UP" "Lcom/example/fingerwork/fingerwork/PointerAction;" (.ref w_POINTER_UP)) (hc5 : ((p1 &&& (2147483647 : Int32)) % (6 : Int32)) = (2 : Int32)) (hc6 : ¬ (w_MOVE = w_POINTER_DOWN)) (hc7 : ¬ (w_MOVE = w_POINTER_UP)) :
    own_met l x code maxLocals ret ws room_1 Z #[(.int p1)] h0 (Qrm0_2 Z w_POINTER_DOWN w_POINTER_UP w_MOVE p1 h0) := by
  refine own_start (plainFor_of_name pn_0) (fun m => ef_code_I m p1) ?_
  intro p e s m below meth c s₁ hx hby hml hown hnm X0 hZ e0 hret hlk
  have N0 := Fr.nil Z.heap.size
  obtain ⟨_, T16, Lc16, X16, hQ16, st16⟩ := own_static (y := y_0) X0 hx hZ hown (own_w hw 1 rfl) (own_w hw 2 rfl) (own_w hw 3 rfl) (own_w hw 4 rfl) (by decide) (rm14 l Z a0 hw [] w_MOVE h0 Z0 S_w_MOVE) (by decide) (by decide) e0 (g := (mkF m 9 #[.val (.int p1), .val (.int (2 : Int32)), .unset, .unset] [(.int (2 : Int32))])) rfl (by rw [hml]; rfl) (argsL := [(.int (2 : Int32))]) (rest := []) (lenOf pd_0 rfl) rfl rfl (W := 0) (by show 2 * 0 + _ ≤ _; exact Nat.le_of_eq rfl) (hb hby at_9) (by decide) (by decide)
  obtain ⟨rfl, N16q, e16⟩ := hQ16
  have N16 := Fr.app N0 N16q
  obtain ⟨_, T20, Lc20, X20, hQ20, st20⟩ := own_virtual (y := y_1) X16 hx hZ hown (own_w hw 8 rfl) (own_w hw 9 rfl) (own_w hw 11 rfl) (own_w hw 10 rfl) (own_w hw 6 rfl) (own_w hw 12 rfl) (by decide) (rm17 l Z a0 hw [] w_POINTER_DOWN w_POINTER_UP w_MOVE h0 Z0 S_w_POINTER_DOWN S_w_POINTER_UP hc6 hc7) (by decide) (by decide) e16 (E_w_MOVE.ext Z0) (g := (mkF m 30 #[.val (.int p1), .val (.int (2 : Int32)), .val (.ref w_MOVE), .val (.int (0 : Int32))] [(.ref w_MOVE)])) rfl (by rw [hml]; rfl) (argsL := []) (rest := []) (lenOf pd_1 rfl) rfl rfl (W := 0) (by show 2 * 0 + _ ≤ _; exact Nat.le_of_eq rfl) (hb hby at_30) (by decide) (by decide)
  obtain ⟨rfl, N20q, e20⟩ := hQ20
  have N20 := Fr.app N16 N20q
  obtain ⟨fs, hr, hrun, hended, hW, hsame⟩ := X20.leave (v := some (.int (1 : Int32))) (fun h => by rw [hret] at h; cases h) hlk
  refine ⟨_, _, ?_, hrun, hended, _, _, rfl, ?_, ⟨_, rfl⟩, hW, hsame.mono (by decide) (by decide)⟩
  · show own_S p e below s₁ (mkF m 0 #[.val (.int p1), .unset, .unset, .unset] []) _
    refine XS.iloadN X0.here hx rfl (hb hby at_0) rfl ?_
    show own_S p e below s₁ (mkF m 1 #[.val (.int p1), .unset, .unset, .unset] [(.int p1)]) _
    refine X0.ldcInt hx hown (mvT hZ (own_w hw 0 rfl)) (g := (mkF m 1 #[.val (.int p1), .unset, .unset, .unset] [(.int p1)])) rfl (hb hby at_1) _ ?_
    show own_S p e below s₁ (mkF m 3 #[.val (.int p1), .unset, .unset, .unset] [(.int (2147483647 : Int32)), (.int p1)]) _
    refine XS.iand X0.here hx rfl (hb hby at_3) rfl ?_
    show own_S p e below s₁ (mkF m 4 #[.val (.int p1), .unset, .unset, .unset] [(.int (p1 &&& (2147483647 : Int32)))]) _
    refine XS.bipush X0.here hx rfl (hb hby at_4) ?_
    show own_S p e below s₁ (mkF m 6 #[.val (.int p1), .unset, .unset, .unset] [(.int (6 : Int32)), (.int (p1 &&& (2147483647 : Int32)))]) _
    refine iremM X0 hx rfl (hb hby at_6) rfl (by decide) ?_
    show own_S p e below s₁ (mkF m 7 #[.val (.int p1), .unset, .unset, .unset] [(.int ((p1 &&& (2147483647 : Int32)) % (6 : Int32)))]) _
    rw [hc5]
    show own_S p e below s₁ (mkF m 7 #[.val (.int p1), .unset, .unset, .unset] [(.int (2 : Int32))]) _
    refine XS.istoreN X0.here hx rfl (hb hby at_7) rfl (l' := #[.val (.int p1), .val (.int (2 : Int32)), .unset, .unset]) rfl ?_
    show own_S p e below s₁ (mkF m 8 #[.val (.int p1), .val (.int (2 : Int32)), .unset, .unset] []) _
    refine XS.iloadN X0.here hx rfl (hb hby at_8) rfl ?_
    show own_S p e below s₁ (mkF m 9 #[.val (.int p1), .val (.int (2 : Int32)), .unset, .unset] [(.int (2 : Int32))]) _
    refine st16 _ ?_
    show own_S p e below T16 (mkF m 12 #[.val (.int p1), .val (.int (2 : Int32)), .unset, .unset] [(.ref w_MOVE)]) _
    refine XS.astoreN X16.here hx rfl (hb hby at_12) rfl rfl (l' := #[.val (.int p1), .val (.int (2 : Int32)), .val (.ref w_MOVE), .unset]) rfl ?_
    show own_S p e below T16 (mkF m 13 #[.val (.int p1), .val (.int (2 : Int32)), .val (.ref w_MOVE), .unset] []) _
    refine XS.iloadN X16.here hx rfl (hb hby at_13) rfl ?_
    show own_S p e below T16 (mkF m 14 #[.val (.int p1), .val (.int (2 : Int32)), .val (.ref w_MOVE), .unset] [(.int (2 : Int32))]) _
    refine XS.iconst X16.here hx rfl (hb hby at_14) ?_
    show own_S p e below T16 (mkF m 15 #[.val (.int p1), .val (.int (2 : Int32)), .val (.ref w_MOVE), .unset] [(.int (1 : Int32)), (.int (2 : Int32))]) _
    refine XS.icmpNo X16.here hx rfl (hb hby at_15) rfl (feq (by decide : ¬ ((2 : Int32) = (1 : Int32)))).1 ?_
    show own_S p e below T16 (mkF m 18 #[.val (.int p1), .val (.int (2 : Int32)), .val (.ref w_MOVE), .unset] []) _
    refine XS.iloadN X16.here hx rfl (hb hby at_18) rfl ?_
    show own_S p e below T16 (mkF m 19 #[.val (.int p1), .val (.int (2 : Int32)), .val (.ref w_MOVE), .unset] [(.int (2 : Int32))]) _
    refine XS.iconst X16.here hx rfl (hb hby at_19) ?_
    show own_S p e below T16 (mkF m 20 #[.val (.int p1), .val (.int (2 : Int32)), .val (.ref w_MOVE), .unset] [(.int (3 : Int32)), (.int (2 : Int32))]) _
    refine XS.icmpYes X16.here hx rfl (pc0 := 20) (pc' := 27) rfl (hb hby at_20) rfl (feq (by decide : ¬ ((2 : Int32) = (3 : Int32)))).2 (by decide) (by decide) ?_
    show own_S p e below T16 (mkF m 27 #[.val (.int p1), .val (.int (2 : Int32)), .val (.ref w_MOVE), .unset] []) _
    refine XS.iconst X16.here hx rfl (hb hby at_27) ?_
    show own_S p e below T16 (mkF m 28 #[.val (.int p1), .val (.int (2 : Int32)), .val (.ref w_MOVE), .unset] [(.int (0 : Int32))]) _
    refine XS.istoreN X16.here hx rfl (hb hby at_28) rfl (l' := #[.val (.int p1), .val (.int (2 : Int32)), .val (.ref w_MOVE), .val (.int (0 : Int32))]) rfl ?_
    show own_S p e below T16 (mkF m 29 #[.val (.int p1), .val (.int (2 : Int32)), .val (.ref w_MOVE), .val (.int (0 : Int32))] []) _
    refine XS.aloadN X16.here hx rfl (hb hby at_29) rfl rfl ?_
    show own_S p e below T16 (mkF m 30 #[.val (.int p1), .val (.int (2 : Int32)), .val (.ref w_MOVE), .val (.int (0 : Int32))] [(.ref w_MOVE)]) _
    refine st20 _ ?_
    show own_S p e below T20 (mkF m 33 #[.val (.int p1), .val (.int (2 : Int32)), .val (.ref w_MOVE), .val (.int (0 : Int32))] [(.int (0 : Int32))]) _
    refine XS.iloadN X20.here hx rfl (hb hby at_33) rfl ?_
    show own_S p e below T20 (mkF m 34 #[.val (.int p1), .val (.int (2 : Int32)), .val (.ref w_MOVE), .val (.int (0 : Int32))] [(.int (0 : Int32)), (.int (0 : Int32))]) _
    refine XS.icmpNo X20.here hx rfl (hb hby at_34) rfl (teq (rfl : (0 : Int32) = (0 : Int32))).2 ?_
    show own_S p e below T20 (mkF m 37 #[.val (.int p1), .val (.int (2 : Int32)), .val (.ref w_MOVE), .val (.int (0 : Int32))] []) _
    refine XS.iconst X20.here hx rfl (hb hby at_37) ?_
    show own_S p e below T20 (mkF m 38 #[.val (.int p1), .val (.int (2 : Int32)), .val (.ref w_MOVE), .val (.int (0 : Int32))] [(.int (1 : Int32))]) _
    refine XS.goto X20.here hx rfl (pc0 := 38) (pc' := 42) rfl (hb hby at_38) (by decide) (by decide) ?_
    show own_S p e below T20 (mkF m 42 #[.val (.int p1), .val (.int (2 : Int32)), .val (.ref w_MOVE), .val (.int (0 : Int32))] [(.int (1 : Int32))]) _
    exact retN X20 hx (t := .boolean) hret (by simp) (hb hby at_42) hr
  · show Qrm0_2 Z w_POINTER_DOWN w_POINTER_UP w_MOVE p1 h0 _ T20.heap _
    exact ⟨rfl, N20⟩
def Qrm21 (Z : State) (w_POINTER_UP : Addr) (h0 : Heap) (v : Option Value) (h : Heap) (L : List Loc) : Prop := v = some (.ref w_POINTER_UP) ∧ Fr Z.heap.size L ∧ h = h0
set_option maxRecDepth 65536 in
set_option maxHeartbeats 40000000 in
theorem rm21 (l : Launch) (Z : State) (a0 : Array Value) (hw : ∀ d ∈ tables_1, d.before a0 Z = true) (ws : List Jvm.Cond) (w_POINTER_UP : Addr) (h0 : Heap) (Z0 : Ext Z.heap h0) (S_w_POINTER_UP : Sta Z Z.heap "com/example/fingerwork/fingerwork/PointerAction" "POINTER_UP" "Lcom/example/fingerwork/fingerwork/PointerAction;" (.ref w_POINTER_UP)) :
    own_met l y_0 method_3_code 1 (some (.object "com/example/fingerwork/fingerwork/PointerAction")) ws ({ frames := 0, cells := 0, slots := 0, locals := 0 } : Room) Z #[(.int (3 : Int32))] h0 (Qrm21 Z w_POINTER_UP h0) := by
  refine own_start (plainFor_of_name pn_0) (fun m => ef_method_3_I m (3 : Int32)) ?_
  intro p e s m below meth c s₁ hx hby hml hown hnm X0 hZ e0 hret hlk
  have N0 := Fr.nil Z.heap.size
  obtain ⟨T22, X22, e22, st22⟩ := getS2 X0 hx hZ hown (host := "") (Or.inl (own_w hw 17 rfl)) Via.refl e0 (S_w_POINTER_UP.ext Z0) (g := (mkF m 31 #[.val (.int (3 : Int32))] [])) rfl (hb hby d_method_3_31)
  obtain ⟨fs, hr, hrun, hended, hW, hsame⟩ := X22.leave (v := some (.ref w_POINTER_UP)) (fun h => by rw [hret] at h; cases h) hlk
  refine ⟨_, _, ?_, hrun, hended, _, _, rfl, ?_, ⟨_, rfl⟩, hW, hsame.mono (by decide) (by decide)⟩
  · show own_S p e below s₁ (mkF m 0 #[.val (.int (3 : Int32))] []) _
    refine XS.iloadN X0.here hx rfl (hb hby d_method_3_0) rfl ?_
    show own_S p e below s₁ (mkF m 1 #[.val (.int (3 : Int32))] [(.int (3 : Int32))]) _
    refine XS.ifYes X0.here hx rfl (pc0 := 1) (pc' := 8) rfl (hb hby d_method_3_1) rfl ((if0 _ _).trans (feq (by decide : ¬ ((3 : Int32) = (0 : Int32)))).2) (by decide) (by decide) ?_
    show own_S p e below s₁ (mkF m 8 #[.val (.int (3 : Int32))] []) _
    refine XS.iloadN X0.here hx rfl (hb hby d_method_3_8) rfl ?_
    show own_S p e below s₁ (mkF m 9 #[.val (.int (3 : Int32))] [(.int (3 : Int32))]) _
    refine XS.iconst X0.here hx rfl (hb hby d_method_3_9) ?_
    show own_S p e below s₁ (mkF m 10 #[.val (.int (3 : Int32))] [(.int (1 : Int32)), (.int (3 : Int32))]) _
    refine XS.icmpYes X0.here hx rfl (pc0 := 10) (pc' := 17) rfl (hb hby d_method_3_10) rfl (feq (by decide : ¬ ((3 : Int32) = (1 : Int32)))).2 (by decide) (by decide) ?_
    show own_S p e below s₁ (mkF m 17 #[.val (.int (3 : Int32))] []) _
    refine XS.iloadN X0.here hx rfl (hb hby d_method_3_17) rfl ?_
    show own_S p e below s₁ (mkF m 18 #[.val (.int (3 : Int32))] [(.int (3 : Int32))]) _
    refine XS.iconst X0.here hx rfl (hb hby d_method_3_18) ?_
    show own_S p e below s₁ (mkF m 19 #[.val (.int (3 : Int32))] [(.int (2 : Int32)), (.int (3 : Int32))]) _
    refine XS.icmpYes X0.here hx rfl (pc0 := 19) (pc' := 26) rfl (hb hby d_method_3_19) rfl (feq (by decide : ¬ ((3 : Int32) = (2 : Int32)))).2 (by decide) (by decide) ?_
    show own_S p e below s₁ (mkF m 26 #[.val (.int (3 : Int32))] []) _
    refine XS.iloadN X0.here hx rfl (hb hby d_method_3_26) rfl ?_
    show own_S p e below s₁ (mkF m 27 #[.val (.int (3 : Int32))] [(.int (3 : Int32))]) _
    refine XS.iconst X0.here hx rfl (hb hby d_method_3_27) ?_
    show own_S p e below s₁ (mkF m 28 #[.val (.int (3 : Int32))] [(.int (3 : Int32)), (.int (3 : Int32))]) _
    refine XS.icmpNo X0.here hx rfl (hb hby d_method_3_28) rfl (teq (rfl : (3 : Int32) = (3 : Int32))).2 ?_
    show own_S p e below s₁ (mkF m 31 #[.val (.int (3 : Int32))] []) _
    refine st22 _ ?_
    show own_S p e below T22 (mkF m 34 #[.val (.int (3 : Int32))] [(.ref w_POINTER_UP)]) _
    jvm_step X22.here [X22.here.top, hx, (hb hby d_method_3_34), X22.method', hret, Value.isRef, FieldType.isReference]
    first | (intro acts; rw [hr _ acts rfl rfl rfl]) | rw [hr _ _ rfl rfl rfl]
    exact Steps.refl _
  · show Qrm21 Z w_POINTER_UP h0 _ T22.heap _
    rw [e22]
    exact ⟨rfl, N0, rfl⟩
def Qrm24 (Z : State) (w_POINTER_DOWN : Addr) (w_POINTER_UP : Addr) (h0 : Heap) (v : Option Value) (h : Heap) (L : List Loc) : Prop := v = some (.int (1 : Int32)) ∧ Fr Z.heap.size L ∧ h = h0
set_option maxRecDepth 65536 in
set_option maxHeartbeats 40000000 in
theorem rm24 (l : Launch) (Z : State) (a0 : Array Value) (hw : ∀ d ∈ tables_1, d.before a0 Z = true) (ws : List Jvm.Cond) (w_POINTER_DOWN : Addr) (w_POINTER_UP : Addr) (h0 : Heap) (Z0 : Ext Z.heap h0) (S_w_POINTER_DOWN : Sta Z Z.heap "com/example/fingerwork/fingerwork/PointerAction" "POINTER_DOWN" "Lcom/example/fingerwork/fingerwork/PointerAction;" (.ref w_POINTER_DOWN)) (S_w_POINTER_UP : Sta Z Z.heap "com/example/fingerwork/fingerwork/PointerAction" "POINTER_UP" "Lcom/example/fingerwork/fingerwork/PointerAction;" (.ref w_POINTER_UP)) (hc9 : ¬ (w_POINTER_UP = w_POINTER_DOWN)) :
    own_met l y_1 prog_17_method_5_code 1 (some .boolean) ws ({ frames := 0, cells := 0, slots := 0, locals := 0 } : Room) Z #[(.ref w_POINTER_UP)] h0 (Qrm24 Z w_POINTER_DOWN w_POINTER_UP h0) := by
  refine own_start (plainFor_of_name pn_1) (fun m => ef_prog_17_method_5_R m w_POINTER_UP) ?_
  intro p e s m below meth c s₁ hx hby hml hown hnm X0 hZ e0 hret hlk
  have N0 := Fr.nil Z.heap.size
  obtain ⟨T25, X25, e25, st25⟩ := getS2 X0 hx hZ hown (host := "") (Or.inl (own_w hw 13 rfl)) Via.refl e0 (S_w_POINTER_DOWN.ext Z0) (g := (mkF m 1 #[.val (.ref w_POINTER_UP)] [(.ref w_POINTER_UP)])) rfl (hb hby d_prog_17_method_5_1)
  obtain ⟨T26, X26, e26, st26⟩ := getS2 X25 hx hZ hown (host := "") (Or.inl (own_w hw 15 rfl)) Via.refl e25 (S_w_POINTER_UP.ext Z0) (g := (mkF m 8 #[.val (.ref w_POINTER_UP)] [(.ref w_POINTER_UP)])) rfl (hb hby d_prog_17_method_5_8)
  obtain ⟨fs, hr, hrun, hended, hW, hsame⟩ := X26.leave (v := some (.int (1 : Int32))) (fun h => by rw [hret] at h; cases h) hlk
  refine ⟨_, _, ?_, hrun, hended, _, _, rfl, ?_, ⟨_, rfl⟩, hW, hsame.mono (by decide) (by decide)⟩
  · show own_S p e below s₁ (mkF m 0 #[.val (.ref w_POINTER_UP)] []) _
    refine XS.aloadN X0.here hx rfl (hb hby d_prog_17_method_5_0) rfl rfl ?_
    show own_S p e below s₁ (mkF m 1 #[.val (.ref w_POINTER_UP)] [(.ref w_POINTER_UP)]) _
    refine st25 _ ?_
    show own_S p e below T25 (mkF m 4 #[.val (.ref w_POINTER_UP)] [(.ref w_POINTER_DOWN), (.ref w_POINTER_UP)]) _
    refine Jvm.RoadKit.acmp (g := (mkF m 4 #[.val (.ref w_POINTER_UP)] [(.ref w_POINTER_DOWN), (.ref w_POINTER_UP)])) X25 hx rfl rfl rfl (pc0 := 4) (pc' := 7) (same := false) rfl (hb hby d_prog_17_method_5_4) rfl (decide_eq_false fun q => hc9 (Value.ref.inj q)) (by decide) (by decide) ?_
    show own_S p e below T25 (mkF m 7 #[.val (.ref w_POINTER_UP)] []) _
    refine XS.aloadN X25.here hx rfl (hb hby d_prog_17_method_5_7) rfl rfl ?_
    show own_S p e below T25 (mkF m 8 #[.val (.ref w_POINTER_UP)] [(.ref w_POINTER_UP)]) _
    refine st26 _ ?_
    show own_S p e below T26 (mkF m 11 #[.val (.ref w_POINTER_UP)] [(.ref w_POINTER_UP), (.ref w_POINTER_UP)]) _
    refine Jvm.RoadKit.acmp (g := (mkF m 11 #[.val (.ref w_POINTER_UP)] [(.ref w_POINTER_UP), (.ref w_POINTER_UP)])) X26 hx rfl rfl rfl (pc0 := 11) (pc' := 14) (same := true) rfl (hb hby d_prog_17_method_5_11) rfl (decide_eq_true rfl) (by decide) (by decide) ?_
    show own_S p e below T26 (mkF m 14 #[.val (.ref w_POINTER_UP)] []) _
    refine XS.iconst X26.here hx rfl (hb hby d_prog_17_method_5_14) ?_
    show own_S p e below T26 (mkF m 15 #[.val (.ref w_POINTER_UP)] [(.int (1 : Int32))]) _
    refine XS.goto X26.here hx rfl (pc0 := 15) (pc' := 19) rfl (hb hby d_prog_17_method_5_15) (by decide) (by decide) ?_
    show own_S p e below T26 (mkF m 19 #[.val (.ref w_POINTER_UP)] [(.int (1 : Int32))]) _
    exact retN X26 hx (t := .boolean) hret (by simp) (hb hby d_prog_17_method_5_19) hr
  · show Qrm24 Z w_POINTER_DOWN w_POINTER_UP h0 _ T26.heap _
    rw [e26]
    exact ⟨rfl, N0, rfl⟩
def Qrm0_3 (Z : State) (w_POINTER_DOWN : Addr) (w_POINTER_UP : Addr) (p1 : Int32) (h0 : Heap) (v : Option Value) (h : Heap) (L : List Loc) : Prop := v = some (.int 1) ∧ Fr Z.heap.size L
set_option maxRecDepth 65536 in
set_option maxHeartbeats 40000000 in
theorem rm0_3 (l : Launch) (Z : State) (a0 : Array Value) (hw : ∀ d ∈ tables_1, d.before a0 Z = true) (ws : List Jvm.Cond) (w_POINTER_DOWN : Addr) (w_POINTER_UP : Addr) (p1 : Int32) (h0 : Heap) (Z0 : Ext Z.heap h0) (S_w_POINTER_UP : Sta Z Z.heap "com/example/fingerwork/fingerwork/PointerAction" "POINTER_UP" "Lcom/example/fingerwork/fingerwork/PointerAction;" (.ref w_POINTER_UP)) (E_w_POINTER_UP : Exa Z Z.heap w_POINTER_UP "com/example/fingerwork/fingerwork/PointerAction") (S_w_POINTER_DOWN : Sta Z Z.heap "com/example/fingerwork/fingerwork/PointerAction" "POINTER_DOWN" "Lcom/example/fingerwork/fingerwork/PointerAction;" (.ref w_POINTER_DOWN)) (hc8 : ((p1 &&& (2147483647 : Int32)) % (6 : Int32)) = (3 : Int32)) (hc9 : ¬ (w_POINTER_UP = w_POINTER_DOWN)) :
    own_met l x code maxLocals ret ws room_1 Z #[(.int p1)] h0 (Qrm0_3 Z w_POINTER_DOWN w_POINTER_UP p1 h0) := by
  refine own_start (plainFor_of_name pn_0) (fun m => ef_code_I m p1) ?_
  intro p e s m below meth c s₁ hx hby hml hown hnm X0 hZ e0 hret hlk
  have N0 := Fr.nil Z.heap.size
  obtain ⟨_, T23, Lc23, X23, hQ23, st23⟩ := own_static (y := y_0) X0 hx hZ hown (own_w hw 1 rfl) (own_w hw 2 rfl) (own_w hw 3 rfl) (own_w hw 4 rfl) (by decide) (rm21 l Z a0 hw [] w_POINTER_UP h0 Z0 S_w_POINTER_UP) (by decide) (by decide) e0 (g := (mkF m 9 #[.val (.int p1), .val (.int (3 : Int32)), .unset, .unset] [(.int (3 : Int32))])) rfl (by rw [hml]; rfl) (argsL := [(.int (3 : Int32))]) (rest := []) (lenOf pd_0 rfl) rfl rfl (W := 0) (by show 2 * 0 + _ ≤ _; exact Nat.le_of_eq rfl) (hb hby at_9) (by decide) (by decide)
  obtain ⟨rfl, N23q, e23⟩ := hQ23
  have N23 := Fr.app N0 N23q
  obtain ⟨_, T27, Lc27, X27, hQ27, st27⟩ := own_virtual (y := y_1) X23 hx hZ hown (own_w hw 8 rfl) (own_w hw 9 rfl) (own_w hw 11 rfl) (own_w hw 10 rfl) (own_w hw 6 rfl) (own_w hw 12 rfl) (by decide) (rm24 l Z a0 hw [] w_POINTER_DOWN w_POINTER_UP h0 Z0 S_w_POINTER_DOWN S_w_POINTER_UP hc9) (by decide) (by decide) e23 (E_w_POINTER_UP.ext Z0) (g := (mkF m 30 #[.val (.int p1), .val (.int (3 : Int32)), .val (.ref w_POINTER_UP), .val (.int (1 : Int32))] [(.ref w_POINTER_UP)])) rfl (by rw [hml]; rfl) (argsL := []) (rest := []) (lenOf pd_1 rfl) rfl rfl (W := 0) (by show 2 * 0 + _ ≤ _; exact Nat.le_of_eq rfl) (hb hby at_30) (by decide) (by decide)
  obtain ⟨rfl, N27q, e27⟩ := hQ27
  have N27 := Fr.app N23 N27q
  obtain ⟨fs, hr, hrun, hended, hW, hsame⟩ := X27.leave (v := some (.int (1 : Int32))) (fun h => by rw [hret] at h; cases h) hlk
  refine ⟨_, _, ?_, hrun, hended, _, _, rfl, ?_, ⟨_, rfl⟩, hW, hsame.mono (by decide) (by decide)⟩
  · show own_S p e below s₁ (mkF m 0 #[.val (.int p1), .unset, .unset, .unset] []) _
    refine XS.iloadN X0.here hx rfl (hb hby at_0) rfl ?_
    show own_S p e below s₁ (mkF m 1 #[.val (.int p1), .unset, .unset, .unset] [(.int p1)]) _
    refine X0.ldcInt hx hown (mvT hZ (own_w hw 0 rfl)) (g := (mkF m 1 #[.val (.int p1), .unset, .unset, .unset] [(.int p1)])) rfl (hb hby at_1) _ ?_
    show own_S p e below s₁ (mkF m 3 #[.val (.int p1), .unset, .unset, .unset] [(.int (2147483647 : Int32)), (.int p1)]) _
    refine XS.iand X0.here hx rfl (hb hby at_3) rfl ?_
    show own_S p e below s₁ (mkF m 4 #[.val (.int p1), .unset, .unset, .unset] [(.int (p1 &&& (2147483647 : Int32)))]) _
    refine XS.bipush X0.here hx rfl (hb hby at_4) ?_
    show own_S p e below s₁ (mkF m 6 #[.val (.int p1), .unset, .unset, .unset] [(.int (6 : Int32)), (.int (p1 &&& (2147483647 : Int32)))]) _
    refine iremM X0 hx rfl (hb hby at_6) rfl (by decide) ?_
    show own_S p e below s₁ (mkF m 7 #[.val (.int p1), .unset, .unset, .unset] [(.int ((p1 &&& (2147483647 : Int32)) % (6 : Int32)))]) _
    rw [hc8]
    show own_S p e below s₁ (mkF m 7 #[.val (.int p1), .unset, .unset, .unset] [(.int (3 : Int32))]) _
    refine XS.istoreN X0.here hx rfl (hb hby at_7) rfl (l' := #[.val (.int p1), .val (.int (3 : Int32)), .unset, .unset]) rfl ?_
    show own_S p e below s₁ (mkF m 8 #[.val (.int p1), .val (.int (3 : Int32)), .unset, .unset] []) _
    refine XS.iloadN X0.here hx rfl (hb hby at_8) rfl ?_
    show own_S p e below s₁ (mkF m 9 #[.val (.int p1), .val (.int (3 : Int32)), .unset, .unset] [(.int (3 : Int32))]) _
    refine st23 _ ?_
    show own_S p e below T23 (mkF m 12 #[.val (.int p1), .val (.int (3 : Int32)), .unset, .unset] [(.ref w_POINTER_UP)]) _
    refine XS.astoreN X23.here hx rfl (hb hby at_12) rfl rfl (l' := #[.val (.int p1), .val (.int (3 : Int32)), .val (.ref w_POINTER_UP), .unset]) rfl ?_
    show own_S p e below T23 (mkF m 13 #[.val (.int p1), .val (.int (3 : Int32)), .val (.ref w_POINTER_UP), .unset] []) _
    refine XS.iloadN X23.here hx rfl (hb hby at_13) rfl ?_
    show own_S p e below T23 (mkF m 14 #[.val (.int p1), .val (.int (3 : Int32)), .val (.ref w_POINTER_UP), .unset] [(.int (3 : Int32))]) _
    refine XS.iconst X23.here hx rfl (hb hby at_14) ?_
    show own_S p e below T23 (mkF m 15 #[.val (.int p1), .val (.int (3 : Int32)), .val (.ref w_POINTER_UP), .unset] [(.int (1 : Int32)), (.int (3 : Int32))]) _
    refine XS.icmpNo X23.here hx rfl (hb hby at_15) rfl (feq (by decide : ¬ ((3 : Int32) = (1 : Int32)))).1 ?_
    show own_S p e below T23 (mkF m 18 #[.val (.int p1), .val (.int (3 : Int32)), .val (.ref w_POINTER_UP), .unset] []) _
    refine XS.iloadN X23.here hx rfl (hb hby at_18) rfl ?_
    show own_S p e below T23 (mkF m 19 #[.val (.int p1), .val (.int (3 : Int32)), .val (.ref w_POINTER_UP), .unset] [(.int (3 : Int32))]) _
    refine XS.iconst X23.here hx rfl (hb hby at_19) ?_
    show own_S p e below T23 (mkF m 20 #[.val (.int p1), .val (.int (3 : Int32)), .val (.ref w_POINTER_UP), .unset] [(.int (3 : Int32)), (.int (3 : Int32))]) _
    refine XS.icmpNo X23.here hx rfl (hb hby at_20) rfl (teq (rfl : (3 : Int32) = (3 : Int32))).2 ?_
    show own_S p e below T23 (mkF m 23 #[.val (.int p1), .val (.int (3 : Int32)), .val (.ref w_POINTER_UP), .unset] []) _
    refine XS.iconst X23.here hx rfl (hb hby at_23) ?_
    show own_S p e below T23 (mkF m 24 #[.val (.int p1), .val (.int (3 : Int32)), .val (.ref w_POINTER_UP), .unset] [(.int (1 : Int32))]) _
    refine XS.goto X23.here hx rfl (pc0 := 24) (pc' := 28) rfl (hb hby at_24) (by decide) (by decide) ?_
    show own_S p e below T23 (mkF m 28 #[.val (.int p1), .val (.int (3 : Int32)), .val (.ref w_POINTER_UP), .unset] [(.int (1 : Int32))]) _
    refine XS.istoreN X23.here hx rfl (hb hby at_28) rfl (l' := #[.val (.int p1), .val (.int (3 : Int32)), .val (.ref w_POINTER_UP), .val (.int (1 : Int32))]) rfl ?_
    show own_S p e below T23 (mkF m 29 #[.val (.int p1), .val (.int (3 : Int32)), .val (.ref w_POINTER_UP), .val (.int (1 : Int32))] []) _
    refine XS.aloadN X23.here hx rfl (hb hby at_29) rfl rfl ?_
    show own_S p e below T23 (mkF m 30 #[.val (.int p1), .val (.int (3 : Int32)), .val (.ref w_POINTER_UP), .val (.int (1 : Int32))] [(.ref w_POINTER_UP)]) _
    refine st27 _ ?_
    show own_S p e below T27 (mkF m 33 #[.val (.int p1), .val (.int (3 : Int32)), .val (.ref w_POINTER_UP), .val (.int (1 : Int32))] [(.int (1 : Int32))]) _
    refine XS.iloadN X27.here hx rfl (hb hby at_33) rfl ?_
    show own_S p e below T27 (mkF m 34 #[.val (.int p1), .val (.int (3 : Int32)), .val (.ref w_POINTER_UP), .val (.int (1 : Int32))] [(.int (1 : Int32)), (.int (1 : Int32))]) _
    refine XS.icmpNo X27.here hx rfl (hb hby at_34) rfl (teq (rfl : (1 : Int32) = (1 : Int32))).2 ?_
    show own_S p e below T27 (mkF m 37 #[.val (.int p1), .val (.int (3 : Int32)), .val (.ref w_POINTER_UP), .val (.int (1 : Int32))] []) _
    refine XS.iconst X27.here hx rfl (hb hby at_37) ?_
    show own_S p e below T27 (mkF m 38 #[.val (.int p1), .val (.int (3 : Int32)), .val (.ref w_POINTER_UP), .val (.int (1 : Int32))] [(.int (1 : Int32))]) _
    refine XS.goto X27.here hx rfl (pc0 := 38) (pc' := 42) rfl (hb hby at_38) (by decide) (by decide) ?_
    show own_S p e below T27 (mkF m 42 #[.val (.int p1), .val (.int (3 : Int32)), .val (.ref w_POINTER_UP), .val (.int (1 : Int32))] [(.int (1 : Int32))]) _
    exact retN X27 hx (t := .boolean) hret (by simp) (hb hby at_42) hr
  · show Qrm0_3 Z w_POINTER_DOWN w_POINTER_UP p1 h0 _ T27.heap _
    exact ⟨rfl, N27⟩
def Qrm28 (Z : State) (w_UP : Addr) (h0 : Heap) (v : Option Value) (h : Heap) (L : List Loc) : Prop := v = some (.ref w_UP) ∧ Fr Z.heap.size L ∧ h = h0
set_option maxRecDepth 65536 in
set_option maxHeartbeats 40000000 in
theorem rm28 (l : Launch) (Z : State) (a0 : Array Value) (hw : ∀ d ∈ tables_1, d.before a0 Z = true) (ws : List Jvm.Cond) (w_UP : Addr) (h0 : Heap) (Z0 : Ext Z.heap h0) (S_w_UP : Sta Z Z.heap "com/example/fingerwork/fingerwork/PointerAction" "UP" "Lcom/example/fingerwork/fingerwork/PointerAction;" (.ref w_UP)) :
    own_met l y_0 method_3_code 1 (some (.object "com/example/fingerwork/fingerwork/PointerAction")) ws ({ frames := 0, cells := 0, slots := 0, locals := 0 } : Room) Z #[(.int (4 : Int32))] h0 (Qrm28 Z w_UP h0) := by
  refine own_start (plainFor_of_name pn_0) (fun m => ef_method_3_I m (4 : Int32)) ?_
  intro p e s m below meth c s₁ hx hby hml hown hnm X0 hZ e0 hret hlk
  have N0 := Fr.nil Z.heap.size
  obtain ⟨T29, X29, e29, st29⟩ := getS2 X0 hx hZ hown (host := "") (Or.inl (own_w hw 23 rfl)) Via.refl e0 (S_w_UP.ext Z0) (g := (mkF m 40 #[.val (.int (4 : Int32))] [])) rfl (hb hby d_method_3_40)
  obtain ⟨fs, hr, hrun, hended, hW, hsame⟩ := X29.leave (v := some (.ref w_UP)) (fun h => by rw [hret] at h; cases h) hlk
  refine ⟨_, _, ?_, hrun, hended, _, _, rfl, ?_, ⟨_, rfl⟩, hW, hsame.mono (by decide) (by decide)⟩
  · show own_S p e below s₁ (mkF m 0 #[.val (.int (4 : Int32))] []) _
    refine XS.iloadN X0.here hx rfl (hb hby d_method_3_0) rfl ?_
    show own_S p e below s₁ (mkF m 1 #[.val (.int (4 : Int32))] [(.int (4 : Int32))]) _
    refine XS.ifYes X0.here hx rfl (pc0 := 1) (pc' := 8) rfl (hb hby d_method_3_1) rfl ((if0 _ _).trans (feq (by decide : ¬ ((4 : Int32) = (0 : Int32)))).2) (by decide) (by decide) ?_
    show own_S p e below s₁ (mkF m 8 #[.val (.int (4 : Int32))] []) _
    refine XS.iloadN X0.here hx rfl (hb hby d_method_3_8) rfl ?_
    show own_S p e below s₁ (mkF m 9 #[.val (.int (4 : Int32))] [(.int (4 : Int32))]) _
    refine XS.iconst X0.here hx rfl (hb hby d_method_3_9) ?_
    show own_S p e below s₁ (mkF m 10 #[.val (.int (4 : Int32))] [(.int (1 : Int32)), (.int (4 : Int32))]) _
    refine XS.icmpYes X0.here hx rfl (pc0 := 10) (pc' := 17) rfl (hb hby d_method_3_10) rfl (feq (by decide : ¬ ((4 : Int32) = (1 : Int32)))).2 (by decide) (by decide) ?_
    show own_S p e below s₁ (mkF m 17 #[.val (.int (4 : Int32))] []) _
    refine XS.iloadN X0.here hx rfl (hb hby d_method_3_17) rfl ?_
    show own_S p e below s₁ (mkF m 18 #[.val (.int (4 : Int32))] [(.int (4 : Int32))]) _
    refine XS.iconst X0.here hx rfl (hb hby d_method_3_18) ?_
    show own_S p e below s₁ (mkF m 19 #[.val (.int (4 : Int32))] [(.int (2 : Int32)), (.int (4 : Int32))]) _
    refine XS.icmpYes X0.here hx rfl (pc0 := 19) (pc' := 26) rfl (hb hby d_method_3_19) rfl (feq (by decide : ¬ ((4 : Int32) = (2 : Int32)))).2 (by decide) (by decide) ?_
    show own_S p e below s₁ (mkF m 26 #[.val (.int (4 : Int32))] []) _
    refine XS.iloadN X0.here hx rfl (hb hby d_method_3_26) rfl ?_
    show own_S p e below s₁ (mkF m 27 #[.val (.int (4 : Int32))] [(.int (4 : Int32))]) _
    refine XS.iconst X0.here hx rfl (hb hby d_method_3_27) ?_
    show own_S p e below s₁ (mkF m 28 #[.val (.int (4 : Int32))] [(.int (3 : Int32)), (.int (4 : Int32))]) _
    refine XS.icmpYes X0.here hx rfl (pc0 := 28) (pc' := 35) rfl (hb hby d_method_3_28) rfl (feq (by decide : ¬ ((4 : Int32) = (3 : Int32)))).2 (by decide) (by decide) ?_
    show own_S p e below s₁ (mkF m 35 #[.val (.int (4 : Int32))] []) _
    refine XS.iloadN X0.here hx rfl (hb hby d_method_3_35) rfl ?_
    show own_S p e below s₁ (mkF m 36 #[.val (.int (4 : Int32))] [(.int (4 : Int32))]) _
    refine XS.iconst X0.here hx rfl (hb hby d_method_3_36) ?_
    show own_S p e below s₁ (mkF m 37 #[.val (.int (4 : Int32))] [(.int (4 : Int32)), (.int (4 : Int32))]) _
    refine XS.icmpNo X0.here hx rfl (hb hby d_method_3_37) rfl (teq (rfl : (4 : Int32) = (4 : Int32))).2 ?_
    show own_S p e below s₁ (mkF m 40 #[.val (.int (4 : Int32))] []) _
    refine st29 _ ?_
    show own_S p e below T29 (mkF m 43 #[.val (.int (4 : Int32))] [(.ref w_UP)]) _
    jvm_step X29.here [X29.here.top, hx, (hb hby d_method_3_43), X29.method', hret, Value.isRef, FieldType.isReference]
    first | (intro acts; rw [hr _ acts rfl rfl rfl]) | rw [hr _ _ rfl rfl rfl]
    exact Steps.refl _
  · show Qrm28 Z w_UP h0 _ T29.heap _
    rw [e29]
    exact ⟨rfl, N0, rfl⟩
def Qrm31 (Z : State) (w_POINTER_DOWN : Addr) (w_POINTER_UP : Addr) (w_UP : Addr) (h0 : Heap) (v : Option Value) (h : Heap) (L : List Loc) : Prop := v = some (.int (0 : Int32)) ∧ Fr Z.heap.size L ∧ h = h0
set_option maxRecDepth 65536 in
set_option maxHeartbeats 40000000 in
theorem rm31 (l : Launch) (Z : State) (a0 : Array Value) (hw : ∀ d ∈ tables_1, d.before a0 Z = true) (ws : List Jvm.Cond) (w_POINTER_DOWN : Addr) (w_POINTER_UP : Addr) (w_UP : Addr) (h0 : Heap) (Z0 : Ext Z.heap h0) (S_w_POINTER_DOWN : Sta Z Z.heap "com/example/fingerwork/fingerwork/PointerAction" "POINTER_DOWN" "Lcom/example/fingerwork/fingerwork/PointerAction;" (.ref w_POINTER_DOWN)) (S_w_POINTER_UP : Sta Z Z.heap "com/example/fingerwork/fingerwork/PointerAction" "POINTER_UP" "Lcom/example/fingerwork/fingerwork/PointerAction;" (.ref w_POINTER_UP)) (hc11 : ¬ (w_UP = w_POINTER_DOWN)) (hc12 : ¬ (w_UP = w_POINTER_UP)) :
    own_met l y_1 prog_17_method_5_code 1 (some .boolean) ws ({ frames := 0, cells := 0, slots := 0, locals := 0 } : Room) Z #[(.ref w_UP)] h0 (Qrm31 Z w_POINTER_DOWN w_POINTER_UP w_UP h0) := by
  refine own_start (plainFor_of_name pn_1) (fun m => ef_prog_17_method_5_R m w_UP) ?_
  intro p e s m below meth c s₁ hx hby hml hown hnm X0 hZ e0 hret hlk
  have N0 := Fr.nil Z.heap.size
  obtain ⟨T32, X32, e32, st32⟩ := getS2 X0 hx hZ hown (host := "") (Or.inl (own_w hw 13 rfl)) Via.refl e0 (S_w_POINTER_DOWN.ext Z0) (g := (mkF m 1 #[.val (.ref w_UP)] [(.ref w_UP)])) rfl (hb hby d_prog_17_method_5_1)
  obtain ⟨T33, X33, e33, st33⟩ := getS2 X32 hx hZ hown (host := "") (Or.inl (own_w hw 15 rfl)) Via.refl e32 (S_w_POINTER_UP.ext Z0) (g := (mkF m 8 #[.val (.ref w_UP)] [(.ref w_UP)])) rfl (hb hby d_prog_17_method_5_8)
  obtain ⟨fs, hr, hrun, hended, hW, hsame⟩ := X33.leave (v := some (.int (0 : Int32))) (fun h => by rw [hret] at h; cases h) hlk
  refine ⟨_, _, ?_, hrun, hended, _, _, rfl, ?_, ⟨_, rfl⟩, hW, hsame.mono (by decide) (by decide)⟩
  · show own_S p e below s₁ (mkF m 0 #[.val (.ref w_UP)] []) _
    refine XS.aloadN X0.here hx rfl (hb hby d_prog_17_method_5_0) rfl rfl ?_
    show own_S p e below s₁ (mkF m 1 #[.val (.ref w_UP)] [(.ref w_UP)]) _
    refine st32 _ ?_
    show own_S p e below T32 (mkF m 4 #[.val (.ref w_UP)] [(.ref w_POINTER_DOWN), (.ref w_UP)]) _
    refine Jvm.RoadKit.acmp (g := (mkF m 4 #[.val (.ref w_UP)] [(.ref w_POINTER_DOWN), (.ref w_UP)])) X32 hx rfl rfl rfl (pc0 := 4) (pc' := 7) (same := false) rfl (hb hby d_prog_17_method_5_4) rfl (decide_eq_false fun q => hc11 (Value.ref.inj q)) (by decide) (by decide) ?_
    show own_S p e below T32 (mkF m 7 #[.val (.ref w_UP)] []) _
    refine XS.aloadN X32.here hx rfl (hb hby d_prog_17_method_5_7) rfl rfl ?_
    show own_S p e below T32 (mkF m 8 #[.val (.ref w_UP)] [(.ref w_UP)]) _
    refine st33 _ ?_
    show own_S p e below T33 (mkF m 11 #[.val (.ref w_UP)] [(.ref w_POINTER_UP), (.ref w_UP)]) _
    refine Jvm.RoadKit.acmp (g := (mkF m 11 #[.val (.ref w_UP)] [(.ref w_POINTER_UP), (.ref w_UP)])) X33 hx rfl rfl rfl (pc0 := 11) (pc' := 18) (same := false) rfl (hb hby d_prog_17_method_5_11) rfl (decide_eq_false fun q => hc12 (Value.ref.inj q)) (by decide) (by decide) ?_
    show own_S p e below T33 (mkF m 18 #[.val (.ref w_UP)] []) _
    refine XS.iconst X33.here hx rfl (hb hby d_prog_17_method_5_18) ?_
    show own_S p e below T33 (mkF m 19 #[.val (.ref w_UP)] [(.int (0 : Int32))]) _
    exact retN X33 hx (t := .boolean) hret (by simp) (hb hby d_prog_17_method_5_19) hr
  · show Qrm31 Z w_POINTER_DOWN w_POINTER_UP w_UP h0 _ T33.heap _
    rw [e33]
    exact ⟨rfl, N0, rfl⟩
def Qrm0_4 (Z : State) (w_POINTER_DOWN : Addr) (w_POINTER_UP : Addr) (w_UP : Addr) (p1 : Int32) (h0 : Heap) (v : Option Value) (h : Heap) (L : List Loc) : Prop := v = some (.int 1) ∧ Fr Z.heap.size L
set_option maxRecDepth 65536 in
set_option maxHeartbeats 40000000 in
theorem rm0_4 (l : Launch) (Z : State) (a0 : Array Value) (hw : ∀ d ∈ tables_1, d.before a0 Z = true) (ws : List Jvm.Cond) (w_POINTER_DOWN : Addr) (w_POINTER_UP : Addr) (w_UP : Addr) (p1 : Int32) (h0 : Heap) (Z0 : Ext Z.heap h0) (S_w_UP : Sta Z Z.heap "com/example/fingerwork/fingerwork/PointerAction" "UP" "Lcom/example/fingerwork/fingerwork/PointerAction;" (.ref w_UP)) (E_w_UP : Exa Z Z.heap w_UP "com/example/fingerwork/fingerwork/PointerAction") (S_w_POINTER_DOWN : Sta Z Z.heap "com/example/fingerwork/fingerwork/PointerAction" "POINTER_DOWN" "Lcom/example/fingerwork/fingerwork/PointerAction;" (.ref w_POINTER_DOWN)) (S_w_POINTER_UP : Sta Z Z.heap "com/example/fingerwork/fingerwork/PointerAction" "POINTER_UP" "Lcom/example/fingerwork/fingerwork/PointerAction;" (.ref w_POINTER_UP)) (hc10 : ((p1 &&& (2147483647 : Int32)) % (6 : Int32)) = (4 : Int32)) (hc11 : ¬ (w_UP = w_POINTER_DOWN)) (hc12 : ¬ (w_UP = w_POINTER_UP)) :
    own_met l x code maxLocals ret ws room_1 Z #[(.int p1)] h0 (Qrm0_4 Z w_POINTER_DOWN w_POINTER_UP w_UP p1 h0) := by
  refine own_start (plainFor_of_name pn_0) (fun m => ef_code_I m p1) ?_
  intro p e s m below meth c s₁ hx hby hml hown hnm X0 hZ e0 hret hlk
  have N0 := Fr.nil Z.heap.size
  obtain ⟨_, T30, Lc30, X30, hQ30, st30⟩ := own_static (y := y_0) X0 hx hZ hown (own_w hw 1 rfl) (own_w hw 2 rfl) (own_w hw 3 rfl) (own_w hw 4 rfl) (by decide) (rm28 l Z a0 hw [] w_UP h0 Z0 S_w_UP) (by decide) (by decide) e0 (g := (mkF m 9 #[.val (.int p1), .val (.int (4 : Int32)), .unset, .unset] [(.int (4 : Int32))])) rfl (by rw [hml]; rfl) (argsL := [(.int (4 : Int32))]) (rest := []) (lenOf pd_0 rfl) rfl rfl (W := 0) (by show 2 * 0 + _ ≤ _; exact Nat.le_of_eq rfl) (hb hby at_9) (by decide) (by decide)
  obtain ⟨rfl, N30q, e30⟩ := hQ30
  have N30 := Fr.app N0 N30q
  obtain ⟨_, T34, Lc34, X34, hQ34, st34⟩ := own_virtual (y := y_1) X30 hx hZ hown (own_w hw 8 rfl) (own_w hw 9 rfl) (own_w hw 11 rfl) (own_w hw 10 rfl) (own_w hw 6 rfl) (own_w hw 12 rfl) (by decide) (rm31 l Z a0 hw [] w_POINTER_DOWN w_POINTER_UP w_UP h0 Z0 S_w_POINTER_DOWN S_w_POINTER_UP hc11 hc12) (by decide) (by decide) e30 (E_w_UP.ext Z0) (g := (mkF m 30 #[.val (.int p1), .val (.int (4 : Int32)), .val (.ref w_UP), .val (.int (0 : Int32))] [(.ref w_UP)])) rfl (by rw [hml]; rfl) (argsL := []) (rest := []) (lenOf pd_1 rfl) rfl rfl (W := 0) (by show 2 * 0 + _ ≤ _; exact Nat.le_of_eq rfl) (hb hby at_30) (by decide) (by decide)
  obtain ⟨rfl, N34q, e34⟩ := hQ34
  have N34 := Fr.app N30 N34q
  obtain ⟨fs, hr, hrun, hended, hW, hsame⟩ := X34.leave (v := some (.int (1 : Int32))) (fun h => by rw [hret] at h; cases h) hlk
  refine ⟨_, _, ?_, hrun, hended, _, _, rfl, ?_, ⟨_, rfl⟩, hW, hsame.mono (by decide) (by decide)⟩
  · show own_S p e below s₁ (mkF m 0 #[.val (.int p1), .unset, .unset, .unset] []) _
    refine XS.iloadN X0.here hx rfl (hb hby at_0) rfl ?_
    show own_S p e below s₁ (mkF m 1 #[.val (.int p1), .unset, .unset, .unset] [(.int p1)]) _
    refine X0.ldcInt hx hown (mvT hZ (own_w hw 0 rfl)) (g := (mkF m 1 #[.val (.int p1), .unset, .unset, .unset] [(.int p1)])) rfl (hb hby at_1) _ ?_
    show own_S p e below s₁ (mkF m 3 #[.val (.int p1), .unset, .unset, .unset] [(.int (2147483647 : Int32)), (.int p1)]) _
    refine XS.iand X0.here hx rfl (hb hby at_3) rfl ?_
    show own_S p e below s₁ (mkF m 4 #[.val (.int p1), .unset, .unset, .unset] [(.int (p1 &&& (2147483647 : Int32)))]) _
    refine XS.bipush X0.here hx rfl (hb hby at_4) ?_
    show own_S p e below s₁ (mkF m 6 #[.val (.int p1), .unset, .unset, .unset] [(.int (6 : Int32)), (.int (p1 &&& (2147483647 : Int32)))]) _
    refine iremM X0 hx rfl (hb hby at_6) rfl (by decide) ?_
    show own_S p e below s₁ (mkF m 7 #[.val (.int p1), .unset, .unset, .unset] [(.int ((p1 &&& (2147483647 : Int32)) % (6 : Int32)))]) _
    rw [hc10]
    show own_S p e below s₁ (mkF m 7 #[.val (.int p1), .unset, .unset, .unset] [(.int (4 : Int32))]) _
    refine XS.istoreN X0.here hx rfl (hb hby at_7) rfl (l' := #[.val (.int p1), .val (.int (4 : Int32)), .unset, .unset]) rfl ?_
    show own_S p e below s₁ (mkF m 8 #[.val (.int p1), .val (.int (4 : Int32)), .unset, .unset] []) _
    refine XS.iloadN X0.here hx rfl (hb hby at_8) rfl ?_
    show own_S p e below s₁ (mkF m 9 #[.val (.int p1), .val (.int (4 : Int32)), .unset, .unset] [(.int (4 : Int32))]) _
    refine st30 _ ?_
    show own_S p e below T30 (mkF m 12 #[.val (.int p1), .val (.int (4 : Int32)), .unset, .unset] [(.ref w_UP)]) _
    refine XS.astoreN X30.here hx rfl (hb hby at_12) rfl rfl (l' := #[.val (.int p1), .val (.int (4 : Int32)), .val (.ref w_UP), .unset]) rfl ?_
    show own_S p e below T30 (mkF m 13 #[.val (.int p1), .val (.int (4 : Int32)), .val (.ref w_UP), .unset] []) _
    refine XS.iloadN X30.here hx rfl (hb hby at_13) rfl ?_
    show own_S p e below T30 (mkF m 14 #[.val (.int p1), .val (.int (4 : Int32)), .val (.ref w_UP), .unset] [(.int (4 : Int32))]) _
    refine XS.iconst X30.here hx rfl (hb hby at_14) ?_
    show own_S p e below T30 (mkF m 15 #[.val (.int p1), .val (.int (4 : Int32)), .val (.ref w_UP), .unset] [(.int (1 : Int32)), (.int (4 : Int32))]) _
    refine XS.icmpNo X30.here hx rfl (hb hby at_15) rfl (feq (by decide : ¬ ((4 : Int32) = (1 : Int32)))).1 ?_
    show own_S p e below T30 (mkF m 18 #[.val (.int p1), .val (.int (4 : Int32)), .val (.ref w_UP), .unset] []) _
    refine XS.iloadN X30.here hx rfl (hb hby at_18) rfl ?_
    show own_S p e below T30 (mkF m 19 #[.val (.int p1), .val (.int (4 : Int32)), .val (.ref w_UP), .unset] [(.int (4 : Int32))]) _
    refine XS.iconst X30.here hx rfl (hb hby at_19) ?_
    show own_S p e below T30 (mkF m 20 #[.val (.int p1), .val (.int (4 : Int32)), .val (.ref w_UP), .unset] [(.int (3 : Int32)), (.int (4 : Int32))]) _
    refine XS.icmpYes X30.here hx rfl (pc0 := 20) (pc' := 27) rfl (hb hby at_20) rfl (feq (by decide : ¬ ((4 : Int32) = (3 : Int32)))).2 (by decide) (by decide) ?_
    show own_S p e below T30 (mkF m 27 #[.val (.int p1), .val (.int (4 : Int32)), .val (.ref w_UP), .unset] []) _
    refine XS.iconst X30.here hx rfl (hb hby at_27) ?_
    show own_S p e below T30 (mkF m 28 #[.val (.int p1), .val (.int (4 : Int32)), .val (.ref w_UP), .unset] [(.int (0 : Int32))]) _
    refine XS.istoreN X30.here hx rfl (hb hby at_28) rfl (l' := #[.val (.int p1), .val (.int (4 : Int32)), .val (.ref w_UP), .val (.int (0 : Int32))]) rfl ?_
    show own_S p e below T30 (mkF m 29 #[.val (.int p1), .val (.int (4 : Int32)), .val (.ref w_UP), .val (.int (0 : Int32))] []) _
    refine XS.aloadN X30.here hx rfl (hb hby at_29) rfl rfl ?_
    show own_S p e below T30 (mkF m 30 #[.val (.int p1), .val (.int (4 : Int32)), .val (.ref w_UP), .val (.int (0 : Int32))] [(.ref w_UP)]) _
    refine st34 _ ?_
    show own_S p e below T34 (mkF m 33 #[.val (.int p1), .val (.int (4 : Int32)), .val (.ref w_UP), .val (.int (0 : Int32))] [(.int (0 : Int32))]) _
    refine XS.iloadN X34.here hx rfl (hb hby at_33) rfl ?_
    show own_S p e below T34 (mkF m 34 #[.val (.int p1), .val (.int (4 : Int32)), .val (.ref w_UP), .val (.int (0 : Int32))] [(.int (0 : Int32)), (.int (0 : Int32))]) _
    refine XS.icmpNo X34.here hx rfl (hb hby at_34) rfl (teq (rfl : (0 : Int32) = (0 : Int32))).2 ?_
    show own_S p e below T34 (mkF m 37 #[.val (.int p1), .val (.int (4 : Int32)), .val (.ref w_UP), .val (.int (0 : Int32))] []) _
    refine XS.iconst X34.here hx rfl (hb hby at_37) ?_
    show own_S p e below T34 (mkF m 38 #[.val (.int p1), .val (.int (4 : Int32)), .val (.ref w_UP), .val (.int (0 : Int32))] [(.int (1 : Int32))]) _
    refine XS.goto X34.here hx rfl (pc0 := 38) (pc' := 42) rfl (hb hby at_38) (by decide) (by decide) ?_
    show own_S p e below T34 (mkF m 42 #[.val (.int p1), .val (.int (4 : Int32)), .val (.ref w_UP), .val (.int (0 : Int32))] [(.int (1 : Int32))]) _
    exact retN X34 hx (t := .boolean) hret (by simp) (hb hby at_42) hr
  · show Qrm0_4 Z w_POINTER_DOWN w_POINTER_UP w_UP p1 h0 _ T34.heap _
    exact ⟨rfl, N34⟩
def Qrm35 (Z : State) (w_CANCEL : Addr) (h0 : Heap) (v : Option Value) (h : Heap) (L : List Loc) : Prop := v = some (.ref w_CANCEL) ∧ Fr Z.heap.size L ∧ h = h0
set_option maxRecDepth 65536 in
set_option maxHeartbeats 40000000 in
theorem rm35 (l : Launch) (Z : State) (a0 : Array Value) (hw : ∀ d ∈ tables_1, d.before a0 Z = true) (ws : List Jvm.Cond) (w_CANCEL : Addr) (h0 : Heap) (Z0 : Ext Z.heap h0) (S_w_CANCEL : Sta Z Z.heap "com/example/fingerwork/fingerwork/PointerAction" "CANCEL" "Lcom/example/fingerwork/fingerwork/PointerAction;" (.ref w_CANCEL)) :
    own_met l y_0 method_3_code 1 (some (.object "com/example/fingerwork/fingerwork/PointerAction")) ws ({ frames := 0, cells := 0, slots := 0, locals := 0 } : Room) Z #[(.int (5 : Int32))] h0 (Qrm35 Z w_CANCEL h0) := by
  refine own_start (plainFor_of_name pn_0) (fun m => ef_method_3_I m (5 : Int32)) ?_
  intro p e s m below meth c s₁ hx hby hml hown hnm X0 hZ e0 hret hlk
  have N0 := Fr.nil Z.heap.size
  obtain ⟨T36, X36, e36, st36⟩ := getS2 X0 hx hZ hown (host := "") (Or.inl (own_w hw 21 rfl)) Via.refl e0 (S_w_CANCEL.ext Z0) (g := (mkF m 44 #[.val (.int (5 : Int32))] [])) rfl (hb hby d_method_3_44)
  obtain ⟨fs, hr, hrun, hended, hW, hsame⟩ := X36.leave (v := some (.ref w_CANCEL)) (fun h => by rw [hret] at h; cases h) hlk
  refine ⟨_, _, ?_, hrun, hended, _, _, rfl, ?_, ⟨_, rfl⟩, hW, hsame.mono (by decide) (by decide)⟩
  · show own_S p e below s₁ (mkF m 0 #[.val (.int (5 : Int32))] []) _
    refine XS.iloadN X0.here hx rfl (hb hby d_method_3_0) rfl ?_
    show own_S p e below s₁ (mkF m 1 #[.val (.int (5 : Int32))] [(.int (5 : Int32))]) _
    refine XS.ifYes X0.here hx rfl (pc0 := 1) (pc' := 8) rfl (hb hby d_method_3_1) rfl ((if0 _ _).trans (feq (by decide : ¬ ((5 : Int32) = (0 : Int32)))).2) (by decide) (by decide) ?_
    show own_S p e below s₁ (mkF m 8 #[.val (.int (5 : Int32))] []) _
    refine XS.iloadN X0.here hx rfl (hb hby d_method_3_8) rfl ?_
    show own_S p e below s₁ (mkF m 9 #[.val (.int (5 : Int32))] [(.int (5 : Int32))]) _
    refine XS.iconst X0.here hx rfl (hb hby d_method_3_9) ?_
    show own_S p e below s₁ (mkF m 10 #[.val (.int (5 : Int32))] [(.int (1 : Int32)), (.int (5 : Int32))]) _
    refine XS.icmpYes X0.here hx rfl (pc0 := 10) (pc' := 17) rfl (hb hby d_method_3_10) rfl (feq (by decide : ¬ ((5 : Int32) = (1 : Int32)))).2 (by decide) (by decide) ?_
    show own_S p e below s₁ (mkF m 17 #[.val (.int (5 : Int32))] []) _
    refine XS.iloadN X0.here hx rfl (hb hby d_method_3_17) rfl ?_
    show own_S p e below s₁ (mkF m 18 #[.val (.int (5 : Int32))] [(.int (5 : Int32))]) _
    refine XS.iconst X0.here hx rfl (hb hby d_method_3_18) ?_
    show own_S p e below s₁ (mkF m 19 #[.val (.int (5 : Int32))] [(.int (2 : Int32)), (.int (5 : Int32))]) _
    refine XS.icmpYes X0.here hx rfl (pc0 := 19) (pc' := 26) rfl (hb hby d_method_3_19) rfl (feq (by decide : ¬ ((5 : Int32) = (2 : Int32)))).2 (by decide) (by decide) ?_
    show own_S p e below s₁ (mkF m 26 #[.val (.int (5 : Int32))] []) _
    refine XS.iloadN X0.here hx rfl (hb hby d_method_3_26) rfl ?_
    show own_S p e below s₁ (mkF m 27 #[.val (.int (5 : Int32))] [(.int (5 : Int32))]) _
    refine XS.iconst X0.here hx rfl (hb hby d_method_3_27) ?_
    show own_S p e below s₁ (mkF m 28 #[.val (.int (5 : Int32))] [(.int (3 : Int32)), (.int (5 : Int32))]) _
    refine XS.icmpYes X0.here hx rfl (pc0 := 28) (pc' := 35) rfl (hb hby d_method_3_28) rfl (feq (by decide : ¬ ((5 : Int32) = (3 : Int32)))).2 (by decide) (by decide) ?_
    show own_S p e below s₁ (mkF m 35 #[.val (.int (5 : Int32))] []) _
    refine XS.iloadN X0.here hx rfl (hb hby d_method_3_35) rfl ?_
    show own_S p e below s₁ (mkF m 36 #[.val (.int (5 : Int32))] [(.int (5 : Int32))]) _
    refine XS.iconst X0.here hx rfl (hb hby d_method_3_36) ?_
    show own_S p e below s₁ (mkF m 37 #[.val (.int (5 : Int32))] [(.int (4 : Int32)), (.int (5 : Int32))]) _
    refine XS.icmpYes X0.here hx rfl (pc0 := 37) (pc' := 44) rfl (hb hby d_method_3_37) rfl (feq (by decide : ¬ ((5 : Int32) = (4 : Int32)))).2 (by decide) (by decide) ?_
    show own_S p e below s₁ (mkF m 44 #[.val (.int (5 : Int32))] []) _
    refine st36 _ ?_
    show own_S p e below T36 (mkF m 47 #[.val (.int (5 : Int32))] [(.ref w_CANCEL)]) _
    jvm_step X36.here [X36.here.top, hx, (hb hby d_method_3_47), X36.method', hret, Value.isRef, FieldType.isReference]
    first | (intro acts; rw [hr _ acts rfl rfl rfl]) | rw [hr _ _ rfl rfl rfl]
    exact Steps.refl _
  · show Qrm35 Z w_CANCEL h0 _ T36.heap _
    rw [e36]
    exact ⟨rfl, N0, rfl⟩
def Qrm38 (Z : State) (w_POINTER_DOWN : Addr) (w_POINTER_UP : Addr) (w_CANCEL : Addr) (h0 : Heap) (v : Option Value) (h : Heap) (L : List Loc) : Prop := v = some (.int (0 : Int32)) ∧ Fr Z.heap.size L ∧ h = h0
set_option maxRecDepth 65536 in
set_option maxHeartbeats 40000000 in
theorem rm38 (l : Launch) (Z : State) (a0 : Array Value) (hw : ∀ d ∈ tables_1, d.before a0 Z = true) (ws : List Jvm.Cond) (w_POINTER_DOWN : Addr) (w_POINTER_UP : Addr) (w_CANCEL : Addr) (h0 : Heap) (Z0 : Ext Z.heap h0) (S_w_POINTER_DOWN : Sta Z Z.heap "com/example/fingerwork/fingerwork/PointerAction" "POINTER_DOWN" "Lcom/example/fingerwork/fingerwork/PointerAction;" (.ref w_POINTER_DOWN)) (S_w_POINTER_UP : Sta Z Z.heap "com/example/fingerwork/fingerwork/PointerAction" "POINTER_UP" "Lcom/example/fingerwork/fingerwork/PointerAction;" (.ref w_POINTER_UP)) (hc14 : ¬ (w_CANCEL = w_POINTER_DOWN)) (hc15 : ¬ (w_CANCEL = w_POINTER_UP)) :
    own_met l y_1 prog_17_method_5_code 1 (some .boolean) ws ({ frames := 0, cells := 0, slots := 0, locals := 0 } : Room) Z #[(.ref w_CANCEL)] h0 (Qrm38 Z w_POINTER_DOWN w_POINTER_UP w_CANCEL h0) := by
  refine own_start (plainFor_of_name pn_1) (fun m => ef_prog_17_method_5_R m w_CANCEL) ?_
  intro p e s m below meth c s₁ hx hby hml hown hnm X0 hZ e0 hret hlk
  have N0 := Fr.nil Z.heap.size
  obtain ⟨T39, X39, e39, st39⟩ := getS2 X0 hx hZ hown (host := "") (Or.inl (own_w hw 13 rfl)) Via.refl e0 (S_w_POINTER_DOWN.ext Z0) (g := (mkF m 1 #[.val (.ref w_CANCEL)] [(.ref w_CANCEL)])) rfl (hb hby d_prog_17_method_5_1)
  obtain ⟨T40, X40, e40, st40⟩ := getS2 X39 hx hZ hown (host := "") (Or.inl (own_w hw 15 rfl)) Via.refl e39 (S_w_POINTER_UP.ext Z0) (g := (mkF m 8 #[.val (.ref w_CANCEL)] [(.ref w_CANCEL)])) rfl (hb hby d_prog_17_method_5_8)
  obtain ⟨fs, hr, hrun, hended, hW, hsame⟩ := X40.leave (v := some (.int (0 : Int32))) (fun h => by rw [hret] at h; cases h) hlk
  refine ⟨_, _, ?_, hrun, hended, _, _, rfl, ?_, ⟨_, rfl⟩, hW, hsame.mono (by decide) (by decide)⟩
  · show own_S p e below s₁ (mkF m 0 #[.val (.ref w_CANCEL)] []) _
    refine XS.aloadN X0.here hx rfl (hb hby d_prog_17_method_5_0) rfl rfl ?_
    show own_S p e below s₁ (mkF m 1 #[.val (.ref w_CANCEL)] [(.ref w_CANCEL)]) _
    refine st39 _ ?_
    show own_S p e below T39 (mkF m 4 #[.val (.ref w_CANCEL)] [(.ref w_POINTER_DOWN), (.ref w_CANCEL)]) _
    refine Jvm.RoadKit.acmp (g := (mkF m 4 #[.val (.ref w_CANCEL)] [(.ref w_POINTER_DOWN), (.ref w_CANCEL)])) X39 hx rfl rfl rfl (pc0 := 4) (pc' := 7) (same := false) rfl (hb hby d_prog_17_method_5_4) rfl (decide_eq_false fun q => hc14 (Value.ref.inj q)) (by decide) (by decide) ?_
    show own_S p e below T39 (mkF m 7 #[.val (.ref w_CANCEL)] []) _
    refine XS.aloadN X39.here hx rfl (hb hby d_prog_17_method_5_7) rfl rfl ?_
    show own_S p e below T39 (mkF m 8 #[.val (.ref w_CANCEL)] [(.ref w_CANCEL)]) _
    refine st40 _ ?_
    show own_S p e below T40 (mkF m 11 #[.val (.ref w_CANCEL)] [(.ref w_POINTER_UP), (.ref w_CANCEL)]) _
    refine Jvm.RoadKit.acmp (g := (mkF m 11 #[.val (.ref w_CANCEL)] [(.ref w_POINTER_UP), (.ref w_CANCEL)])) X40 hx rfl rfl rfl (pc0 := 11) (pc' := 18) (same := false) rfl (hb hby d_prog_17_method_5_11) rfl (decide_eq_false fun q => hc15 (Value.ref.inj q)) (by decide) (by decide) ?_
    show own_S p e below T40 (mkF m 18 #[.val (.ref w_CANCEL)] []) _
    refine XS.iconst X40.here hx rfl (hb hby d_prog_17_method_5_18) ?_
    show own_S p e below T40 (mkF m 19 #[.val (.ref w_CANCEL)] [(.int (0 : Int32))]) _
    exact retN X40 hx (t := .boolean) hret (by simp) (hb hby d_prog_17_method_5_19) hr
  · show Qrm38 Z w_POINTER_DOWN w_POINTER_UP w_CANCEL h0 _ T40.heap _
    rw [e40]
    exact ⟨rfl, N0, rfl⟩
def Qrm0_5 (Z : State) (w_POINTER_DOWN : Addr) (w_POINTER_UP : Addr) (w_CANCEL : Addr) (p1 : Int32) (h0 : Heap) (v : Option Value) (h : Heap) (L : List Loc) : Prop := v = some (.int 1) ∧ Fr Z.heap.size L
set_option maxRecDepth 65536 in
set_option maxHeartbeats 40000000 in
theorem rm0_5 (l : Launch) (Z : State) (a0 : Array Value) (hw : ∀ d ∈ tables_1, d.before a0 Z = true) (ws : List Jvm.Cond) (w_POINTER_DOWN : Addr) (w_POINTER_UP : Addr) (w_CANCEL : Addr) (p1 : Int32) (h0 : Heap) (Z0 : Ext Z.heap h0) (S_w_CANCEL : Sta Z Z.heap "com/example/fingerwork/fingerwork/PointerAction" "CANCEL" "Lcom/example/fingerwork/fingerwork/PointerAction;" (.ref w_CANCEL)) (E_w_CANCEL : Exa Z Z.heap w_CANCEL "com/example/fingerwork/fingerwork/PointerAction") (S_w_POINTER_DOWN : Sta Z Z.heap "com/example/fingerwork/fingerwork/PointerAction" "POINTER_DOWN" "Lcom/example/fingerwork/fingerwork/PointerAction;" (.ref w_POINTER_DOWN)) (S_w_POINTER_UP : Sta Z Z.heap "com/example/fingerwork/fingerwork/PointerAction" "POINTER_UP" "Lcom/example/fingerwork/fingerwork/PointerAction;" (.ref w_POINTER_UP)) (hc13 : ((p1 &&& (2147483647 : Int32)) % (6 : Int32)) = (5 : Int32)) (hc14 : ¬ (w_CANCEL = w_POINTER_DOWN)) (hc15 : ¬ (w_CANCEL = w_POINTER_UP)) :
    own_met l x code maxLocals ret ws room_1 Z #[(.int p1)] h0 (Qrm0_5 Z w_POINTER_DOWN w_POINTER_UP w_CANCEL p1 h0) := by
  refine own_start (plainFor_of_name pn_0) (fun m => ef_code_I m p1) ?_
  intro p e s m below meth c s₁ hx hby hml hown hnm X0 hZ e0 hret hlk
  have N0 := Fr.nil Z.heap.size
  obtain ⟨_, T37, Lc37, X37, hQ37, st37⟩ := own_static (y := y_0) X0 hx hZ hown (own_w hw 1 rfl) (own_w hw 2 rfl) (own_w hw 3 rfl) (own_w hw 4 rfl) (by decide) (rm35 l Z a0 hw [] w_CANCEL h0 Z0 S_w_CANCEL) (by decide) (by decide) e0 (g := (mkF m 9 #[.val (.int p1), .val (.int (5 : Int32)), .unset, .unset] [(.int (5 : Int32))])) rfl (by rw [hml]; rfl) (argsL := [(.int (5 : Int32))]) (rest := []) (lenOf pd_0 rfl) rfl rfl (W := 0) (by show 2 * 0 + _ ≤ _; exact Nat.le_of_eq rfl) (hb hby at_9) (by decide) (by decide)
  obtain ⟨rfl, N37q, e37⟩ := hQ37
  have N37 := Fr.app N0 N37q
  obtain ⟨_, T41, Lc41, X41, hQ41, st41⟩ := own_virtual (y := y_1) X37 hx hZ hown (own_w hw 8 rfl) (own_w hw 9 rfl) (own_w hw 11 rfl) (own_w hw 10 rfl) (own_w hw 6 rfl) (own_w hw 12 rfl) (by decide) (rm38 l Z a0 hw [] w_POINTER_DOWN w_POINTER_UP w_CANCEL h0 Z0 S_w_POINTER_DOWN S_w_POINTER_UP hc14 hc15) (by decide) (by decide) e37 (E_w_CANCEL.ext Z0) (g := (mkF m 30 #[.val (.int p1), .val (.int (5 : Int32)), .val (.ref w_CANCEL), .val (.int (0 : Int32))] [(.ref w_CANCEL)])) rfl (by rw [hml]; rfl) (argsL := []) (rest := []) (lenOf pd_1 rfl) rfl rfl (W := 0) (by show 2 * 0 + _ ≤ _; exact Nat.le_of_eq rfl) (hb hby at_30) (by decide) (by decide)
  obtain ⟨rfl, N41q, e41⟩ := hQ41
  have N41 := Fr.app N37 N41q
  obtain ⟨fs, hr, hrun, hended, hW, hsame⟩ := X41.leave (v := some (.int (1 : Int32))) (fun h => by rw [hret] at h; cases h) hlk
  refine ⟨_, _, ?_, hrun, hended, _, _, rfl, ?_, ⟨_, rfl⟩, hW, hsame.mono (by decide) (by decide)⟩
  · show own_S p e below s₁ (mkF m 0 #[.val (.int p1), .unset, .unset, .unset] []) _
    refine XS.iloadN X0.here hx rfl (hb hby at_0) rfl ?_
    show own_S p e below s₁ (mkF m 1 #[.val (.int p1), .unset, .unset, .unset] [(.int p1)]) _
    refine X0.ldcInt hx hown (mvT hZ (own_w hw 0 rfl)) (g := (mkF m 1 #[.val (.int p1), .unset, .unset, .unset] [(.int p1)])) rfl (hb hby at_1) _ ?_
    show own_S p e below s₁ (mkF m 3 #[.val (.int p1), .unset, .unset, .unset] [(.int (2147483647 : Int32)), (.int p1)]) _
    refine XS.iand X0.here hx rfl (hb hby at_3) rfl ?_
    show own_S p e below s₁ (mkF m 4 #[.val (.int p1), .unset, .unset, .unset] [(.int (p1 &&& (2147483647 : Int32)))]) _
    refine XS.bipush X0.here hx rfl (hb hby at_4) ?_
    show own_S p e below s₁ (mkF m 6 #[.val (.int p1), .unset, .unset, .unset] [(.int (6 : Int32)), (.int (p1 &&& (2147483647 : Int32)))]) _
    refine iremM X0 hx rfl (hb hby at_6) rfl (by decide) ?_
    show own_S p e below s₁ (mkF m 7 #[.val (.int p1), .unset, .unset, .unset] [(.int ((p1 &&& (2147483647 : Int32)) % (6 : Int32)))]) _
    rw [hc13]
    show own_S p e below s₁ (mkF m 7 #[.val (.int p1), .unset, .unset, .unset] [(.int (5 : Int32))]) _
    refine XS.istoreN X0.here hx rfl (hb hby at_7) rfl (l' := #[.val (.int p1), .val (.int (5 : Int32)), .unset, .unset]) rfl ?_
    show own_S p e below s₁ (mkF m 8 #[.val (.int p1), .val (.int (5 : Int32)), .unset, .unset] []) _
    refine XS.iloadN X0.here hx rfl (hb hby at_8) rfl ?_
    show own_S p e below s₁ (mkF m 9 #[.val (.int p1), .val (.int (5 : Int32)), .unset, .unset] [(.int (5 : Int32))]) _
    refine st37 _ ?_
    show own_S p e below T37 (mkF m 12 #[.val (.int p1), .val (.int (5 : Int32)), .unset, .unset] [(.ref w_CANCEL)]) _
    refine XS.astoreN X37.here hx rfl (hb hby at_12) rfl rfl (l' := #[.val (.int p1), .val (.int (5 : Int32)), .val (.ref w_CANCEL), .unset]) rfl ?_
    show own_S p e below T37 (mkF m 13 #[.val (.int p1), .val (.int (5 : Int32)), .val (.ref w_CANCEL), .unset] []) _
    refine XS.iloadN X37.here hx rfl (hb hby at_13) rfl ?_
    show own_S p e below T37 (mkF m 14 #[.val (.int p1), .val (.int (5 : Int32)), .val (.ref w_CANCEL), .unset] [(.int (5 : Int32))]) _
    refine XS.iconst X37.here hx rfl (hb hby at_14) ?_
    show own_S p e below T37 (mkF m 15 #[.val (.int p1), .val (.int (5 : Int32)), .val (.ref w_CANCEL), .unset] [(.int (1 : Int32)), (.int (5 : Int32))]) _
    refine XS.icmpNo X37.here hx rfl (hb hby at_15) rfl (feq (by decide : ¬ ((5 : Int32) = (1 : Int32)))).1 ?_
    show own_S p e below T37 (mkF m 18 #[.val (.int p1), .val (.int (5 : Int32)), .val (.ref w_CANCEL), .unset] []) _
    refine XS.iloadN X37.here hx rfl (hb hby at_18) rfl ?_
    show own_S p e below T37 (mkF m 19 #[.val (.int p1), .val (.int (5 : Int32)), .val (.ref w_CANCEL), .unset] [(.int (5 : Int32))]) _
    refine XS.iconst X37.here hx rfl (hb hby at_19) ?_
    show own_S p e below T37 (mkF m 20 #[.val (.int p1), .val (.int (5 : Int32)), .val (.ref w_CANCEL), .unset] [(.int (3 : Int32)), (.int (5 : Int32))]) _
    refine XS.icmpYes X37.here hx rfl (pc0 := 20) (pc' := 27) rfl (hb hby at_20) rfl (feq (by decide : ¬ ((5 : Int32) = (3 : Int32)))).2 (by decide) (by decide) ?_
    show own_S p e below T37 (mkF m 27 #[.val (.int p1), .val (.int (5 : Int32)), .val (.ref w_CANCEL), .unset] []) _
    refine XS.iconst X37.here hx rfl (hb hby at_27) ?_
    show own_S p e below T37 (mkF m 28 #[.val (.int p1), .val (.int (5 : Int32)), .val (.ref w_CANCEL), .unset] [(.int (0 : Int32))]) _
    refine XS.istoreN X37.here hx rfl (hb hby at_28) rfl (l' := #[.val (.int p1), .val (.int (5 : Int32)), .val (.ref w_CANCEL), .val (.int (0 : Int32))]) rfl ?_
    show own_S p e below T37 (mkF m 29 #[.val (.int p1), .val (.int (5 : Int32)), .val (.ref w_CANCEL), .val (.int (0 : Int32))] []) _
    refine XS.aloadN X37.here hx rfl (hb hby at_29) rfl rfl ?_
    show own_S p e below T37 (mkF m 30 #[.val (.int p1), .val (.int (5 : Int32)), .val (.ref w_CANCEL), .val (.int (0 : Int32))] [(.ref w_CANCEL)]) _
    refine st41 _ ?_
    show own_S p e below T41 (mkF m 33 #[.val (.int p1), .val (.int (5 : Int32)), .val (.ref w_CANCEL), .val (.int (0 : Int32))] [(.int (0 : Int32))]) _
    refine XS.iloadN X41.here hx rfl (hb hby at_33) rfl ?_
    show own_S p e below T41 (mkF m 34 #[.val (.int p1), .val (.int (5 : Int32)), .val (.ref w_CANCEL), .val (.int (0 : Int32))] [(.int (0 : Int32)), (.int (0 : Int32))]) _
    refine XS.icmpNo X41.here hx rfl (hb hby at_34) rfl (teq (rfl : (0 : Int32) = (0 : Int32))).2 ?_
    show own_S p e below T41 (mkF m 37 #[.val (.int p1), .val (.int (5 : Int32)), .val (.ref w_CANCEL), .val (.int (0 : Int32))] []) _
    refine XS.iconst X41.here hx rfl (hb hby at_37) ?_
    show own_S p e below T41 (mkF m 38 #[.val (.int p1), .val (.int (5 : Int32)), .val (.ref w_CANCEL), .val (.int (0 : Int32))] [(.int (1 : Int32))]) _
    refine XS.goto X41.here hx rfl (pc0 := 38) (pc' := 42) rfl (hb hby at_38) (by decide) (by decide) ?_
    show own_S p e below T41 (mkF m 42 #[.val (.int p1), .val (.int (5 : Int32)), .val (.ref w_CANCEL), .val (.int (0 : Int32))] [(.int (1 : Int32))]) _
    exact retN X41 hx (t := .boolean) hret (by simp) (hb hby at_42) hr
  · show Qrm0_5 Z w_POINTER_DOWN w_POINTER_UP w_CANCEL p1 h0 _ T41.heap _
    exact ⟨rfl, N41⟩
set_option maxRecDepth 65536 in
set_option maxHeartbeats 40000000 in
theorem comes_1 {Post : Tables → Env → Array Value → State → Outcome → State → Prop} (hpost : ∀ tb e args s v u, (limb_1_1.after args s (.returned v) u = true ∧ limb_1_2.after args s (.returned v) u = true ∧ True) → FrameEnd s (.returned v) u (Jvm.fieldLocs frame_1_writes args s ++ Jvm.arrayLocs frame_1_arrays args s ++ Jvm.staticLocs frame_1_statics s) 0 0 → Post tb e args s (.returned v) u) :
    ArmFor flags0 classFile x code maxLocals ret World_1 tables_1 room_1 Calls_1 rest_1 Pre_1 Post := by
  intro l hfl _ _ p e ha hc hk s m args below hf hA hF happ hP
  obtain ⟨hcalls, hrest, hpre⟩ := hP
  obtain ⟨-, -, -, hnamed, -, -, -, hat⟩ := (Spec.applies_iff hf).mp happ
  obtain ⟨hg, hn⟩ := and_e (Cond.before_iff.mp (show (Jvm.Cond.and given_1 narrow_1).before args s = true from hpre))
  obtain ⟨hcount, hG0⟩ := and_e hg
  have hA0 := hG0
  obtain ⟨v0, rfl⟩ : ∃ v0 : Value, args = #[v0] := by
    have hs : args.size = 1 := by simpa [Cond.value, given_1] using hcount
    obtain ⟨L⟩ := args
    match L, hs with
    | [v0], _ => exact ⟨v0, rfl⟩
  have hw := fun d (hd : d ∈ tables_1) => atoms_spec (ws := Jvm.Cond.code x code maxLocals ret :: tables_1) hat d (List.mem_cons_of_mem _ hd)
  obtain ⟨p1, ei0⟩ := is_v hA0
  obtain rfl : v0 = (.int p1) := Option.some.inj ei0
  obtain ⟨hN0, hR0⟩ := and_e hn
  obtain ⟨hN1, hR1⟩ := and_e hR0
  obtain ⟨hN2, hR2⟩ := and_e hR1
  obtain ⟨hN3, hR3⟩ := and_e hR2
  obtain ⟨hN4, hR4⟩ := and_e hR3
  obtain ⟨hN5, hR5⟩ := and_e hR4
  obtain ⟨hN6, hR6⟩ := and_e hR5
  obtain ⟨hN7, hR7⟩ := and_e hR6
  obtain ⟨hN8, hR8⟩ := and_e hR7
  obtain ⟨hN9, hR9⟩ := and_e hR8
  obtain ⟨hN10, hR10⟩ := and_e hR9
  have hN11 := hR10
  obtain ⟨w_DOWN, ev_w_DOWN⟩ := exa_v hN0
  have E_w_DOWN : Exa s s.heap w_DOWN "com/example/fingerwork/fingerwork/PointerAction" := Exa.start ev_w_DOWN hN0
  have S_w_DOWN : Sta s s.heap "com/example/fingerwork/fingerwork/PointerAction" "DOWN" "Lcom/example/fingerwork/fingerwork/PointerAction;" (.ref w_DOWN) := Sta.start ev_w_DOWN (Or.inr ⟨(own_w hw 6 rfl), (own_w hw 7 rfl)⟩)
  obtain ⟨w_POINTER_DOWN, ev_w_POINTER_DOWN⟩ := exa_v hN1
  have E_w_POINTER_DOWN : Exa s s.heap w_POINTER_DOWN "com/example/fingerwork/fingerwork/PointerAction" := Exa.start ev_w_POINTER_DOWN hN1
  have S_w_POINTER_DOWN : Sta s s.heap "com/example/fingerwork/fingerwork/PointerAction" "POINTER_DOWN" "Lcom/example/fingerwork/fingerwork/PointerAction;" (.ref w_POINTER_DOWN) := Sta.start ev_w_POINTER_DOWN (Or.inr ⟨(own_w hw 6 rfl), (own_w hw 14 rfl)⟩)
  obtain ⟨w_POINTER_UP, ev_w_POINTER_UP⟩ := exa_v hN4
  have E_w_POINTER_UP : Exa s s.heap w_POINTER_UP "com/example/fingerwork/fingerwork/PointerAction" := Exa.start ev_w_POINTER_UP hN4
  have S_w_POINTER_UP : Sta s s.heap "com/example/fingerwork/fingerwork/PointerAction" "POINTER_UP" "Lcom/example/fingerwork/fingerwork/PointerAction;" (.ref w_POINTER_UP) := Sta.start ev_w_POINTER_UP (Or.inr ⟨(own_w hw 6 rfl), (own_w hw 16 rfl)⟩)
  obtain ⟨w_MOVE, ev_w_MOVE⟩ := exa_v hN6
  have E_w_MOVE : Exa s s.heap w_MOVE "com/example/fingerwork/fingerwork/PointerAction" := Exa.start ev_w_MOVE hN6
  have S_w_MOVE : Sta s s.heap "com/example/fingerwork/fingerwork/PointerAction" "MOVE" "Lcom/example/fingerwork/fingerwork/PointerAction;" (.ref w_MOVE) := Sta.start ev_w_MOVE (Or.inr ⟨(own_w hw 6 rfl), (own_w hw 19 rfl)⟩)
  obtain ⟨w_CANCEL, ev_w_CANCEL⟩ := exa_v hN8
  have E_w_CANCEL : Exa s s.heap w_CANCEL "com/example/fingerwork/fingerwork/PointerAction" := Exa.start ev_w_CANCEL hN8
  have S_w_CANCEL : Sta s s.heap "com/example/fingerwork/fingerwork/PointerAction" "CANCEL" "Lcom/example/fingerwork/fingerwork/PointerAction;" (.ref w_CANCEL) := Sta.start ev_w_CANCEL (Or.inr ⟨(own_w hw 6 rfl), (own_w hw 22 rfl)⟩)
  obtain ⟨w_UP, ev_w_UP⟩ := exa_v hN10
  have E_w_UP : Exa s s.heap w_UP "com/example/fingerwork/fingerwork/PointerAction" := Exa.start ev_w_UP hN10
  have S_w_UP : Sta s s.heap "com/example/fingerwork/fingerwork/PointerAction" "UP" "Lcom/example/fingerwork/fingerwork/PointerAction;" (.ref w_UP) := Sta.start ev_w_UP (Or.inr ⟨(own_w hw 6 rfl), (own_w hw 24 rfl)⟩)
  have F_w_DOWN_ordinal : Fld s s.heap w_DOWN "java/lang/Enum" "ordinal" "I" (.int (0 : Int32)) := Fld.start ((fld_at ev_w_DOWN).symm.trans (own_eqI hN2))
  have F_w_POINTER_DOWN_ordinal : Fld s s.heap w_POINTER_DOWN "java/lang/Enum" "ordinal" "I" (.int (1 : Int32)) := Fld.start ((fld_at ev_w_POINTER_DOWN).symm.trans (own_eqI hN3))
  have F_w_POINTER_UP_ordinal : Fld s s.heap w_POINTER_UP "java/lang/Enum" "ordinal" "I" (.int (3 : Int32)) := Fld.start ((fld_at ev_w_POINTER_UP).symm.trans (own_eqI hN5))
  have F_w_MOVE_ordinal : Fld s s.heap w_MOVE "java/lang/Enum" "ordinal" "I" (.int (2 : Int32)) := Fld.start ((fld_at ev_w_MOVE).symm.trans (own_eqI hN7))
  have F_w_CANCEL_ordinal : Fld s s.heap w_CANCEL "java/lang/Enum" "ordinal" "I" (.int (5 : Int32)) := Fld.start ((fld_at ev_w_CANCEL).symm.trans (own_eqI hN9))
  have F_w_UP_ordinal : Fld s s.heap w_UP "java/lang/Enum" "ordinal" "I" (.int (4 : Int32)) := Fld.start ((fld_at ev_w_UP).symm.trans (own_eqI hN11))
  have hX0 : Ext s.heap s.heap := ⟨Nat.le_refl _, fun _ _ q => q⟩
  have key : MetFree l x (head1 (Jvm.Cond.code x code maxLocals ret :: tables_1) room_1) (fun a U => a = #[(.int p1)] ∧ s.Warmed39 U.vm ∧ U.heap = s.heap) (fun _ _ _ _ _ => True) (fun _ U o U' => ∃ v L, o = .returned v ∧ (v = some (.int 1) ∧ Fr s.heap.size L) ∧ FrameEnd U o U' L room_1.cells room_1.slots) := by
    rcases own_split p1 with hq | hq | hq | hq | hq | hq
    · exact rm0_0 l s _ hw tables_1 w_DOWN w_POINTER_DOWN w_POINTER_UP p1 s.heap hX0 S_w_DOWN E_w_DOWN S_w_POINTER_DOWN S_w_POINTER_UP hq (F_w_DOWN_ordinal.ne F_w_POINTER_DOWN_ordinal (by decide)) (F_w_DOWN_ordinal.ne F_w_POINTER_UP_ordinal (by decide))
    · exact rm0_1 l s _ hw tables_1 w_POINTER_DOWN p1 s.heap hX0 S_w_POINTER_DOWN E_w_POINTER_DOWN hq
    · exact rm0_2 l s _ hw tables_1 w_POINTER_DOWN w_POINTER_UP w_MOVE p1 s.heap hX0 S_w_MOVE E_w_MOVE S_w_POINTER_DOWN S_w_POINTER_UP hq (F_w_MOVE_ordinal.ne F_w_POINTER_DOWN_ordinal (by decide)) (F_w_MOVE_ordinal.ne F_w_POINTER_UP_ordinal (by decide))
    · exact rm0_3 l s _ hw tables_1 w_POINTER_DOWN w_POINTER_UP p1 s.heap hX0 S_w_POINTER_UP E_w_POINTER_UP S_w_POINTER_DOWN hq (F_w_POINTER_UP_ordinal.ne F_w_POINTER_DOWN_ordinal (by decide))
    · exact rm0_4 l s _ hw tables_1 w_POINTER_DOWN w_POINTER_UP w_UP p1 s.heap hX0 S_w_UP E_w_UP S_w_POINTER_DOWN S_w_POINTER_UP hq (F_w_UP_ordinal.ne F_w_POINTER_DOWN_ordinal (by decide)) (F_w_UP_ordinal.ne F_w_POINTER_UP_ordinal (by decide))
    · exact rm0_5 l s _ hw tables_1 w_POINTER_DOWN w_POINTER_UP w_CANCEL p1 s.heap hX0 S_w_CANCEL E_w_CANCEL S_w_POINTER_DOWN S_w_POINTER_UP hq (F_w_CANCEL_ordinal.ne F_w_POINTER_DOWN_ordinal (by decide)) (F_w_CANCEL_ordinal.ne F_w_POINTER_UP_ordinal (by decide))
  obtain ⟨n, o, h1, h2, h3, _, L, rfl, ⟨rfl, N⟩, hq⟩ := key p e ha hc hk s m _ below hf ((Spec.applies_iff_loose hf).mp happ).1 ⟨rfl, State.Warmed39.refl s, rfl⟩ trivial
  refine ⟨n, _, h1, h2, h3, hpost _ _ _ _ _ _ ⟨Cond.after_iff.mpr rfl, Cond.after_iff.mpr (eq_i res_at (Term.int_eval (1)) rfl), trivial⟩ ⟨hq.1, hq.2.1, (hq.2.2.sift fun y hy => Or.inr (N y hy)).mono (by decide) (by decide)⟩⟩
theorem main_1_1 : Claimed_1_1 := comes_1 fun _ _ _ _ _ _ h hF => ⟨h.1, hF⟩
theorem main_1_2 : Claimed_1_2 := comes_1 fun _ _ _ _ _ _ h hF => ⟨h.2.1, hF⟩
end Jvm.Pilot.@@N@@
namespace Jvm.Pilot.@@N@@
open Jvm Jvm.ClassFile Sem Op Lib Jvm.Free Jvm.Stand Jvm.Pilot.@@N@@.Jvm.D
/-! MADE BY PROGRAM (witnessworld.py) out of the Statement's table words and the real class files: 12 classes; the members and pool entries that the words name. The judged class is class 1, her method 1. -/
namespace start1
open Jvm.ClassFile
def u (s : String) : CpInfo := .utf8 (stringToUtf16 s)
/-- a pool by its gaps: so many unusable entries, then the entry; so many at the end -/
def gap : Nat → List CpInfo → List CpInfo
  | 0, r => r
  | n + 1, r => .unusable :: gap n r
def poolList (es : List (Nat × CpInfo)) (last : Nat) : List CpInfo := es.foldr (fun e r => gap e.1 (e.2 :: r)) (gap last [])
def pool (es : List (Nat × CpInfo)) (last : Nat) : Array CpInfo := ⟨poolList es last⟩
def fileOf (pool : Array CpInfo) (this : Nat) (attrs : Array Attribute := #[]) (ms : Array MethodInfo := #[]) (fl : Nat := 33) (sup : Nat := 0) (ifs : Array Nat := #[]) (fds : Array FieldInfo := #[]) : ClassFile where
  minorVersion := 0
  majorVersion := 65
  constantPool := pool
  accessFlags := fl
  thisClass := this
  superClass := sup
  interfaces := ifs
  fields := fds
  methods := ms
  attributes := attrs
def plain (name : String) (sup : Option ClassId) : Class where
  name := name
  kind := .ordinary
  loader := none
  accessFlags := 33
  super := sup
  interfaces := #[]
  cf := none
  fields := #[]
  methods := #[]
  instanceTypes := #[]
  staticTypes := #[]
  resolved := #[]
  callSites := []
  init := .initialized
  statics := none
  mirror := none

def pool0 : Array CpInfo := pool [(5, u "<init>"), (0, u "()V"), (1, .class_ 10), (1, u "java/lang/Object")] 113

def k0m0 : Method := { name := "<init>", desc := "()V", sig := { parameters := [], returnType := none }, accessFlags := 1, code := none }
/-- java/lang/Object -/
def k0 : Class := { plain "java/lang/Object" none with
  accessFlags := 33
  interfaces := #[]
  cf := some (fileOf pool0 8 #[] #[{ accessFlags := 1, nameIndex := 5, descriptorIndex := 6, attributes := #[] }] 33 0 #[] #[])
  fields := #[]
  methods := #[k0m0]
  instanceTypes := #[]
  staticTypes := #[]
  resolved := Array.replicate 124 none
  statics := none }

def pool1 : Array CpInfo := pool [(2, .class_ 4), (1, u "java/lang/Object"), (0, u "<init>"), (0, u "()V"), (0, .integer 2147483647), (0, .methodref 9 10), (0, .class_ 11), (0, .nameAndType 12 13), (0, u "com/example/fingerwork/fingerwork/PointerActionNamesChangedPointerPinLaw"), (0, u "pick"), (0, u "(I)Lcom/example/fingerwork/fingerwork/PointerAction;"), (0, .methodref 15 16), (0, .class_ 17), (0, .nameAndType 18 19), (0, u "com/example/fingerwork/fingerwork/PointerAction"), (0, u "namesChangedPointer"), (0, u "()Z"), (0, .fieldref 15 21), (0, .nameAndType 22 23), (0, u "DOWN"), (0, u "Lcom/example/fingerwork/fingerwork/PointerAction;"), (0, .fieldref 15 25), (0, .nameAndType 26 23), (0, u "POINTER_DOWN"), (0, .fieldref 15 28), (0, .nameAndType 29 23), (0, u "MOVE"), (0, .fieldref 15 31), (0, .nameAndType 32 23), (0, u "POINTER_UP"), (0, .fieldref 15 34), (0, .nameAndType 35 23), (0, u "UP"), (0, .fieldref 15 37), (0, .nameAndType 38 23), (0, u "CANCEL"), (2, u "law"), (0, u "(I)Z")] 3

def k1m0 : Method := { name := "<init>", desc := "()V", sig := { parameters := [], returnType := none }, accessFlags := 1, code := none }
def k1c1 : Code := { maxStack := 2, maxLocals := 4, code := code, exceptionTable := #[], attributes := #[] }
def k1m1 : Method := { name := "law", desc := "(I)Z", sig := { parameters := [.int], returnType := some .boolean }, accessFlags := 9, code := some k1c1 }
def k1c2 : Code := { maxStack := 2, maxLocals := 1, code := method_3_code, exceptionTable := #[], attributes := #[] }
def k1m2 : Method := { name := "pick", desc := "(I)Lcom/example/fingerwork/fingerwork/PointerAction;", sig := { parameters := [.int], returnType := some (.object "com/example/fingerwork/fingerwork/PointerAction") }, accessFlags := 10, code := some k1c2 }
/-- com/example/fingerwork/fingerwork/PointerActionNamesChangedPointerPinLaw -/
def k1 : Class := { plain "com/example/fingerwork/fingerwork/PointerActionNamesChangedPointerPinLaw" (some 0) with
  accessFlags := 49
  interfaces := #[]
  cf := some (fileOf pool1 9 #[] #[{ accessFlags := 1, nameIndex := 5, descriptorIndex := 6, attributes := #[] }, { accessFlags := 9, nameIndex := 41, descriptorIndex := 42, attributes := #[] }, { accessFlags := 10, nameIndex := 12, descriptorIndex := 13, attributes := #[] }] 49 2 #[] #[])
  fields := #[]
  methods := #[k1m0, k1m1, k1m2]
  instanceTypes := #[]
  staticTypes := #[]
  resolved := Array.replicate 46 none
  statics := none }

def pool2 : Array CpInfo := pool [(1, .class_ 2), (0, u "java/lang/constant/Constable"), (0, .class_ 4), (0, u "java/lang/Object")] 6

/-- java/lang/constant/Constable -/
def k2 : Class := { plain "java/lang/constant/Constable" (some 0) with
  accessFlags := 1537
  interfaces := #[]
  cf := some (fileOf pool2 1 #[] #[] 1537 3 #[] #[])
  fields := #[]
  methods := #[]
  instanceTypes := #[]
  staticTypes := #[]
  resolved := Array.replicate 11 none
  statics := none }

def pool3 : Array CpInfo := pool [(1, .class_ 2), (0, u "java/lang/Comparable"), (0, .class_ 4), (0, u "java/lang/Object")] 7

/-- java/lang/Comparable -/
def k3 : Class := { plain "java/lang/Comparable" (some 0) with
  accessFlags := 1537
  interfaces := #[]
  cf := some (fileOf pool3 1 #[] #[] 1537 3 #[] #[])
  fields := #[]
  methods := #[]
  instanceTypes := #[]
  staticTypes := #[]
  resolved := Array.replicate 12 none
  statics := none }

def pool4 : Array CpInfo := pool [(1, .class_ 2), (0, u "java/io/Serializable"), (0, .class_ 4), (0, u "java/lang/Object")] 2

/-- java/io/Serializable -/
def k4 : Class := { plain "java/io/Serializable" (some 0) with
  accessFlags := 1537
  interfaces := #[]
  cf := some (fileOf pool4 1 #[] #[] 1537 3 #[] #[])
  fields := #[]
  methods := #[]
  instanceTypes := #[]
  staticTypes := #[]
  resolved := Array.replicate 7 none
  statics := none }

def pool5 : Array CpInfo := pool [(2, .class_ 4), (1, u "java/lang/Enum"), (0, u "name"), (0, u "Ljava/lang/String;"), (2, u "ordinal"), (0, u "I"), (1, .class_ 14), (1, u "java/lang/Object"), (4, u "hash"), (86, .class_ 108), (1, u "java/lang/Enum$EnumDesc"), (2, .class_ 112), (0, u "java/lang/constant/Constable"), (0, .class_ 114), (0, u "java/lang/Comparable"), (0, .class_ 116), (0, u "java/io/Serializable")] 87

/-- java/lang/Enum -/
def k5 : Class := { plain "java/lang/Enum" (some 0) with
  accessFlags := 1057
  interfaces := #[2, 3, 4]
  cf := some (fileOf pool5 2 #[.nestMembers #[106]] #[] 1057 12 #[111, 113, 115] #[{ accessFlags := 18, nameIndex := 5, descriptorIndex := 6, attributes := #[] }, { accessFlags := 18, nameIndex := 9, descriptorIndex := 10, attributes := #[] }, { accessFlags := 2, nameIndex := 19, descriptorIndex := 10, attributes := #[] }])
  fields := #[{ name := "name", type := (.object "java/lang/String"), accessFlags := 18, slot := 0, constantValue := 0 }, { name := "ordinal", type := .int, accessFlags := 18, slot := 1, constantValue := 0 }, { name := "hash", type := .int, accessFlags := 2, slot := 2, constantValue := 0 }]
  methods := #[]
  instanceTypes := #[(.object "java/lang/String"), .int, .int]
  staticTypes := #[]
  resolved := Array.replicate 204 none
  statics := none }

def pool6 : Array CpInfo := pool [(1, .class_ 2), (0, u "com/example/fingerwork/fingerwork/PointerAction"), (2, u "DOWN"), (0, u "Lcom/example/fingerwork/fingerwork/PointerAction;"), (0, .fieldref 1 8), (0, .nameAndType 9 6), (0, u "POINTER_DOWN"), (2, u "MOVE"), (0, .fieldref 1 14), (0, .nameAndType 15 6), (0, u "POINTER_UP"), (2, u "UP"), (2, u "CANCEL"), (2, u "$VALUES"), (0, u "[Lcom/example/fingerwork/fingerwork/PointerAction;"), (6, .class_ 34), (1, u "java/lang/Enum"), (8, u "label"), (0, u "Ljava/lang/String;"), (49, u "namesChangedPointer"), (0, u "()Z")] 23

def k6c0 : Code := { maxStack := 2, maxLocals := 1, code := prog_17_method_5_code, exceptionTable := #[], attributes := #[] }
def k6m0 : Method := { name := "namesChangedPointer", desc := "()Z", sig := { parameters := [], returnType := some .boolean }, accessFlags := 1, code := some k6c0 }
/-- com/example/fingerwork/fingerwork/PointerAction -/
def k6 : Class := { plain "com/example/fingerwork/fingerwork/PointerAction" (some 5) with
  accessFlags := 16433
  interfaces := #[]
  cf := some (fileOf pool6 1 #[] #[{ accessFlags := 1, nameIndex := 94, descriptorIndex := 95, attributes := #[] }] 16433 32 #[] #[{ accessFlags := 16409, nameIndex := 5, descriptorIndex := 6, attributes := #[] }, { accessFlags := 16409, nameIndex := 9, descriptorIndex := 6, attributes := #[] }, { accessFlags := 16409, nameIndex := 12, descriptorIndex := 6, attributes := #[] }, { accessFlags := 16409, nameIndex := 15, descriptorIndex := 6, attributes := #[] }, { accessFlags := 16409, nameIndex := 18, descriptorIndex := 6, attributes := #[] }, { accessFlags := 16409, nameIndex := 21, descriptorIndex := 6, attributes := #[] }, { accessFlags := 18, nameIndex := 43, descriptorIndex := 44, attributes := #[] }, { accessFlags := 4122, nameIndex := 24, descriptorIndex := 25, attributes := #[] }])
  fields := #[{ name := "DOWN", type := (.object "com/example/fingerwork/fingerwork/PointerAction"), accessFlags := 16409, slot := 0, constantValue := 0 }, { name := "POINTER_DOWN", type := (.object "com/example/fingerwork/fingerwork/PointerAction"), accessFlags := 16409, slot := 1, constantValue := 0 }, { name := "MOVE", type := (.object "com/example/fingerwork/fingerwork/PointerAction"), accessFlags := 16409, slot := 2, constantValue := 0 }, { name := "POINTER_UP", type := (.object "com/example/fingerwork/fingerwork/PointerAction"), accessFlags := 16409, slot := 3, constantValue := 0 }, { name := "UP", type := (.object "com/example/fingerwork/fingerwork/PointerAction"), accessFlags := 16409, slot := 4, constantValue := 0 }, { name := "CANCEL", type := (.object "com/example/fingerwork/fingerwork/PointerAction"), accessFlags := 16409, slot := 5, constantValue := 0 }, { name := "label", type := (.object "java/lang/String"), accessFlags := 18, slot := 3, constantValue := 0 }, { name := "$VALUES", type := (.array (.object "com/example/fingerwork/fingerwork/PointerAction")), accessFlags := 4122, slot := 6, constantValue := 0 }]
  methods := #[k6m0]
  instanceTypes := #[(.object "java/lang/String"), .int, .int, (.object "java/lang/String")]
  staticTypes := #[(.object "com/example/fingerwork/fingerwork/PointerAction"), (.object "com/example/fingerwork/fingerwork/PointerAction"), (.object "com/example/fingerwork/fingerwork/PointerAction"), (.object "com/example/fingerwork/fingerwork/PointerAction"), (.object "com/example/fingerwork/fingerwork/PointerAction"), (.object "com/example/fingerwork/fingerwork/PointerAction"), (.array (.object "com/example/fingerwork/fingerwork/PointerAction"))]
  resolved := Array.replicate 119 none
  statics := some 0 }

def pool7 : Array CpInfo := pool [(1, u "java/lang/Cloneable"), (0, .class_ 1), (0, u "java/lang/Object"), (0, .class_ 3)] 3

/-- java/lang/Cloneable -/
def k7 : Class := { plain "java/lang/Cloneable" (some 0) with
  accessFlags := 1537
  interfaces := #[]
  cf := some (fileOf pool7 2 #[] #[] 1537 4 #[] #[])
  fields := #[]
  methods := #[]
  instanceTypes := #[]
  staticTypes := #[]
  resolved := Array.replicate 8 none
  statics := none }

/-- the primitive byte -/
def k8 : Class := { plain "byte" none with kind := .primitive 'B', accessFlags := 0x411 }
/-- [B -/
def k9 : Class := { plain "[B" (some 0) with kind := .array 8 .byte, interfaces := #[7, 4], accessFlags := 1041 }

/-- the primitive int -/
def k10 : Class := { plain "int" none with kind := .primitive 'I', accessFlags := 0x411 }
/-- [I -/
def k11 : Class := { plain "[I" (some 0) with kind := .array 10 .int, interfaces := #[7, 4], accessFlags := 1041 }

def heap : Heap := #[{ cls := 6, slots := #[.ref 1, .ref 2, .ref 4, .ref 3, .ref 6, .ref 5, .null], vm := .statics 6 },
  { cls := 6, slots := #[.null, .int 0, .int 0, .null], vm := .none },
  { cls := 6, slots := #[.null, .int 1, .int 0, .null], vm := .none },
  { cls := 6, slots := #[.null, .int 3, .int 0, .null], vm := .none },
  { cls := 6, slots := #[.null, .int 2, .int 0, .null], vm := .none },
  { cls := 6, slots := #[.null, .int 5, .int 0, .null], vm := .none },
  { cls := 6, slots := #[.null, .int 4, .int 0, .null], vm := .none }]
def classes : Array Class := #[k0, k1, k2, k3, k4, k5, k6, k7, k8, k9, k10, k11]
def interned : List (Array UInt16 × Addr) := []
def slotsUsed : Nat := 31
def theMethod : MethodId := ⟨1, 1⟩
def args0 : Array Value := #[.int 5]
def aboutOver (below : List Frame) : State where
  vm := { classes := classes, interned := interned.toArray }
  heap := heap
  slotsUsed := slotsUsed
  threads := #[{ frames := .invoking theMethod args0 :: below }]
def below0 : List Frame := [.native { method := ⟨0, 0⟩, args := #[] }]
def about1 : State := aboutOver below0
def p0 : Program := .bare "" "" ""
def e0 : Env := launch0.env 0 0 0
theorem w_frames : about1.frames = Frame.invoking theMethod args0 :: below0 := rfl
set_option maxRecDepth 65536 in
theorem w_args : argsFit about1.vm theMethod args0 = true := by decide +kernel
set_option maxRecDepth 65536 in
theorem w_heap : heapFits about1 = true := by decide +kernel
set_option maxRecDepth 65536 in
theorem w_runnable : about1.curStatus? = some .runnable := by decide +kernel
set_option maxRecDepth 65536 in
theorem w_alone : about1.alone = true := by decide +kernel
set_option maxRecDepth 65536 in
theorem w_named : about1.methodNamed? x = some theMethod := by decide +kernel
set_option maxRecDepth 65536 in
theorem w_hears : about1.hears theMethod below0 = true := by decide +kernel
set_option maxRecDepth 65536 in
theorem w_ripe : about1.ripe theMethod args0 below0 = true := by decide +kernel
theorem w_running : about1.status = .running := rfl
set_option maxRecDepth 65536 in
theorem w_room : about1.hasRoom e0.platform room_1 = true :=
  launch0.hasRoom_least _ room_1 (by decide +kernel) (by decide +kernel) (by decide +kernel) (by decide +kernel) (by decide +kernel) (by decide +kernel)
theorem allAtoms_all (ts : List Jvm.Cond) (a : Array Jvm.Value) (st : Jvm.State) : (allAtoms ts).before a st = ts.all (fun c => c.before a st) := by
  induction ts with
  | nil => rfl
  | cons c t ih =>
    show (Jvm.Cond.and c (allAtoms t)).before a st = _
    rw [Jvm.Cond.before_and, ih, List.all_cons]
def words1 : List Jvm.Cond := Jvm.Cond.code x code maxLocals ret :: tables_1
/-- a 'code' word, met by the world's own term for the bytes: nothing is compared byte by byte -/
theorem code_word {y : MethodName} {bytes : ByteArray} {mx : Nat} {rt : Option FieldType} {a : Array Value} {s : State} {m : MethodId} {meth : Method} {c : Code} (h1 : s.methodNamed? y = some m) (h2 : s.vm.method? m = some meth) (h3 : meth.code = some c) (h4 : c.code = bytes)
    (h5 : (c.maxLocals == mx && c.exceptionTable.isEmpty && decide (c.maxStack ≤ mostOperands) && decide (meth.sig.returnType = rt) && !meth.locks && decide (parseMethodDescriptor y.desc = some meth.sig)) = true) : (Jvm.Cond.code y bytes mx rt).before a s = true := by
  simp only [Bool.and_eq_true, beq_iff_eq, Bool.not_eq_true', decide_eq_true_eq] at h5
  obtain ⟨⟨⟨⟨⟨g1, g2⟩, g3⟩, g4⟩, g5⟩, g6⟩ := h5
  simp [Cond.before, Cond.holds, Cond.value, h1, h2, h3, h4, g1, g2, g3, g4, g5, g6]
def isCode : Jvm.Cond → Bool
  | .code _ _ _ _ => true
  | _ => false
theorem all_split {L : List Jvm.Cond} {P : Jvm.Cond → Bool} (h1 : L.all (fun c => isCode c || P c) = true) (h2 : ∀ c ∈ L.filter isCode, P c = true) : L.all P = true := by
  refine List.all_eq_true.mpr fun c hc => ?_
  have h := List.all_eq_true.mp h1 c hc
  rcases Bool.eq_false_or_eq_true (isCode c) with hi | hi
  · exact h2 c (List.mem_filter.mpr ⟨hc, hi⟩)
  · simpa [hi] using h
set_option maxRecDepth 65536 in
theorem w_c0 : (Jvm.Cond.code x code maxLocals ret).before args0 about1 = true := code_word (m := ⟨1, 1⟩) (meth := k1m1) (c := k1c1) (by decide +kernel) rfl rfl rfl (by decide +kernel)
set_option maxRecDepth 65536 in
theorem w_c1 : (Jvm.Cond.code ({ cls := "com/example/fingerwork/fingerwork/PointerActionNamesChangedPointerPinLaw", name := "pick", desc := "(I)Lcom/example/fingerwork/fingerwork/PointerAction;" } : Jvm.MethodName) method_3_code (1 : Nat) (Option.some (Jvm.ClassFile.FieldType.object "com/example/fingerwork/fingerwork/PointerAction"))).before args0 about1 = true := code_word (m := ⟨1, 2⟩) (meth := k1m2) (c := k1c2) (by decide +kernel) rfl rfl rfl (by decide +kernel)
set_option maxRecDepth 65536 in
theorem w_c2 : (Jvm.Cond.code ({ cls := "com/example/fingerwork/fingerwork/PointerAction", name := "namesChangedPointer", desc := "()Z" } : Jvm.MethodName) prog_17_method_5_code (1 : Nat) (Option.some Jvm.ClassFile.FieldType.boolean)).before args0 about1 = true := code_word (m := ⟨6, 0⟩) (meth := k6m0) (c := k6c0) (by decide +kernel) rfl rfl rfl (by decide +kernel)
def codes1 : List Jvm.Cond := [Jvm.Cond.code x code maxLocals ret, Jvm.Cond.code ({ cls := "com/example/fingerwork/fingerwork/PointerActionNamesChangedPointerPinLaw", name := "pick", desc := "(I)Lcom/example/fingerwork/fingerwork/PointerAction;" } : Jvm.MethodName) method_3_code (1 : Nat) (Option.some (Jvm.ClassFile.FieldType.object "com/example/fingerwork/fingerwork/PointerAction")), Jvm.Cond.code ({ cls := "com/example/fingerwork/fingerwork/PointerAction", name := "namesChangedPointer", desc := "()Z" } : Jvm.MethodName) prog_17_method_5_code (1 : Nat) (Option.some Jvm.ClassFile.FieldType.boolean)]
set_option maxRecDepth 65536 in
theorem codes_eq : words1.filter isCode = codes1 := rfl
theorem w_codes : ∀ c ∈ words1.filter isCode, c.before args0 about1 = true := by
  rw [codes_eq]
  intro c hc
  simp only [codes1, List.mem_cons, List.not_mem_nil, or_false] at hc
  rcases hc with rfl | rfl | rfl
  · exact w_c0
  · exact w_c1
  · exact w_c2
set_option maxRecDepth 65536 in
theorem w_t1 : (words1.take 24).all (fun c => isCode c || c.before args0 about1) = true := by decide +kernel
set_option maxRecDepth 65536 in
theorem w_t2 : (words1.drop 24).all (fun c => isCode c || c.before args0 about1) = true := by decide +kernel
theorem w_tables : (allAtoms (Jvm.Cond.code x code maxLocals ret :: tables_1)).before args0 about1 = true := by
  rw [allAtoms_all]
  show words1.all (fun c => c.before args0 about1) = true
  refine all_split ?_ w_codes
  rw [← List.take_append_drop 24 words1, List.all_append, w_t1, w_t2]
  rfl
set_option maxRecDepth 65536 in
theorem w_case : (Jvm.Cond.and given_1 narrow_1).before args0 about1 = true := by decide +kernel
theorem w_applies : (headSpec (Jvm.Cond.code x code maxLocals ret :: tables_1) room_1).applies x e0.platform about1 = true :=
  (Spec.applies_iff w_frames).mpr ⟨w_running, w_runnable, w_alone, w_named, w_hears, w_ripe, w_room, w_tables⟩
theorem atStart : AtStart classFile x code maxLocals ret World_1 tables_1 room_1 Calls_1 rest_1 Pre_1 launch0 p0 e0 about1 theMethod args0 below0 :=
  ⟨lists_1, trivial, launch0.admits_env _ _ _, launch0.least_env, fairChoices_fair.cas, fairChoices_fair.clock, w_frames, w_args, w_heap, w_applies, trivial, trivial, w_case⟩
end start1
theorem witness_1 : WitnessClaimed_1 := ⟨start1.p0, start1.e0, start1.about1, start1.theMethod, start1.args0, start1.below0, start1.atStart⟩
end Jvm.Pilot.@@N@@
