import JvmDerived
import JvmDerived.Pilot.@@N@@Statement
import JvmDerived.Pilot.@@N@@Code
set_option linter.unusedVariables false
set_option linter.unusedSimpArgs false
namespace Jvm.RoadKit
open Sem ClassFile Op Lib Jvm.Stand Jvm.Free Jvm.LawKit
section New
variable {p : Program} {l : Launch} {e : Env} {R : Room} {s : State} {m : MethodId} {args : Array Value} {below : List Frame} {meth : Method} {c : Code} {T : State} {locs : List Loc} {cells slots : Nat}
theorem retI (X : Stand p l e R s m args below meth c T locs cells slots) (hx : p.tables.exec = Jvm.exec) {pc : Nat} {Ls : Array Slot} {z : Int32} {rest : List Value} (hret : meth.sig.returnType = some .int) (hd : decode c.code pc = .ok (.ireturn, 1)) {fs : List Frame}
    (hl : ∀ (f : JFrame) (acts : List Action), f.method = m → f.locked = none → f.entered = [] → (doReturn e (T.setTop f) acts (some (.int z))).1 = T.setFrames fs) : Steps p.tables e below (T.setTop (mkF m pc Ls (.int z :: rest))) (T.setFrames fs) := by
  have hm' : T.vm.method? m = some meth := X.method'
  have hn : narrow .int (.int z) = .int z := rfl
  show Steps p.tables e below (T.setTop { method := m, pc := pc, locals := Ls, stack := _ :: rest, locked := none }) _
  jvm_step X.here [X.here.top, hx, hd, hm', hret, hn]
  first | (intro acts; rw [hl _ acts rfl rfl rfl]) | rw [hl _ _ rfl rfl rfl]
  exact Steps.refl _
end New
end Jvm.RoadKit
namespace Jvm.Pilot.@@N@@
open Jvm Jvm.ClassFile Sem Op Lib Jvm.Free Jvm.Stand Jvm.LawKit Jvm.RoadKit Bundle Jvm.Pilot.@@N@@.Jvm.D
theorem own_eqI {t : Term} {n : Int32} {args : Array Value} {s : State} (h : (Jvm.Cond.eq t (.int n)).value args s none s [] = some true) : t.eval args s none [] s = some (.int n) := by
  simp only [Cond.value, Term.eval] at h
  cases ht : t.eval args s none [] s with
  | none => simp [ht] at h
  | some x => cases x <;> simp [ht] at h ⊢; exact h
theorem own_eqJ {t : Term} {n : Int64} {args : Array Value} {s : State} (h : (Jvm.Cond.eq t (.long n)).value args s none s [] = some true) : t.eval args s none [] s = some (.long n) := by
  simp only [Cond.value, Term.eval] at h
  cases ht : t.eval args s none [] s with
  | none => simp [ht] at h
  | some x => cases x <;> simp [ht] at h ⊢; exact h
theorem own_eqR {t u : Term} {a : Addr} {args : Array Value} {s : State} (h : (Jvm.Cond.eq t u).value args s none s [] = some true) (hu : u.eval args s none [] s = some (.ref a)) : t.eval args s none [] s = some (.ref a) := by
  simp only [Cond.value, hu] at h
  cases ht : t.eval args s none [] s with
  | none => simp [ht] at h
  | some x => cases x <;> simp [ht] at h ⊢; exact h
theorem own_len {t : Term} {w : Addr} {c : Cell} {ty : FieldType} {n : Int32} {args : Array Value} {s : State} (ev : t.eval args s none [] s = some (.ref w)) (A : Arr s s.heap w c ty) (h : (Term.length t).eval args s none [] s = some (.int n)) (hn : ¬ n < 0) : c.slots.size = n.toNatClampNeg := by
  simp only [Term.eval, ev, A.fin (Vm.Alike.refl _), Option.bind_eq_bind, Option.bind_some] at h
  split at h
  · rename_i hl
    have q : c.slots.size.toInt32 = n := by simpa using h
    rw [← q]
    have q2 : c.slots.size.toInt32.toInt = (c.slots.size : Int) := len_toInt hl
    have q3 := nat_of (j := c.slots.size.toInt32) (by rw [q]; exact hn)
    omega
  · simp at h
theorem own_extW {Z : State} {h h' : Heap} {a : Addr} {sl : Nat} {v : Value} (X : Ext Z.heap h) (W : Wr h h' a sl v) (q : Z.heap.size ≤ a) : Ext Z.heap h' := (Old.wr (Z := Z) ⟨rfl, X⟩ W q).2
theorem own_ext2 {h h' h'' : Heap} (X : Ext h h') (E : Ext h' h'') : Ext h h'' := ⟨Nat.le_trans X.1 E.1, fun x c q => E.2 x c (X.2 x c q)⟩
theorem own_extK {Z : State} {h h' : Heap} {ws : List Addr} (X : Ext Z.heap h) (K : Keep h h' ws) (q : ∀ x ∈ ws, Z.heap.size ≤ x) : Ext Z.heap h' := (Old.keep (Z := Z) ⟨rfl, X⟩ K q).2
theorem own_neI {t : Term} {n x : Int32} {args : Array Value} {s : State} (h : (Jvm.Cond.eq t (.int n)).value args s none s [] = some (!true)) (ev : t.eval args s none [] s = some (.int x)) : ¬ (x = n) := by
  intro q
  subst q
  simp [Cond.value, Term.eval, ev] at h
theorem own_nsRoot {Z : State} {a0 : Array Value} {O K : String} {n : Nat} (w : (Jvm.Cond.noSuperclass O).before a0 Z = true) (wk : (Jvm.Cond.instantiable K n).before a0 Z = true) (hn : O ≠ K) : NS Z O K := by
  obtain ⟨c, k, h1, h2, h3, -, -⟩ := Cond.noSuperclass_spec w
  obtain ⟨t, k', g1, -⟩ := Cond.instantiable_spec wk
  have ne := ids_ne h1 g1 hn
  refine ⟨c, t, h1, g1, fun fuel => ?_⟩
  cases fuel with
  | zero => rfl
  | succ f => simp [Vm.isSubclassAux, ne, h2, h3]
theorem own_nsNo {Z : State} {a0 : Array Value} {C S K : String} {n : Nat} (w : (Jvm.Cond.superclass C S).before a0 Z = true) (wk : (Jvm.Cond.instantiable K n).before a0 Z = true) (N : NS Z C K) (hn : C ≠ K) : ∃ c t, Z.vm.findClass C = some c ∧ Z.vm.findClass K = some t ∧ Z.vm.assignable c t = false := by
  obtain ⟨c, t, h0, g0, n3⟩ := N
  obtain ⟨p, k, kp, h1, h2, h3, h4, h5, -, h7⟩ := Cond.superclass_spec h0 w
  obtain ⟨q, k', g1, g2, g5, g7, -, -⟩ := Cond.instantiable_spec wk
  cases g0.symm.trans g1
  have ne := ids_ne h0 g0 hn
  have gi : k'.isInterface = false := by cases hi : k'.isInterface <;> simp [hi] at g7 ⊢
  refine ⟨c, t, h0, g0, ?_⟩
  show Z.vm.assignableAux (255 + 1) c t = false
  simp [Vm.assignableAux, ne, h2, g2, h5, g5, gi, Vm.isSubclass, n3]
theorem own_nb (x : Int32) : nar .byte (x.toInt8.toInt32) = x.toInt8.toInt32 := by simp [nar]
abbrev own_S (p : Program) (e : Env) (below : List Frame) (T : State) (g : JFrame) (t : State) : Prop := Steps p.tables e below (T.setTop g) t
theorem own_w {Z : State} {a0 : Array Value} (hw : ∀ d ∈ tables_1, d.before a0 Z = true) {d : Jvm.Cond} (i : Nat) (h : tables_1[i]? = some d) : d.before a0 Z = true := hw _ (List.mem_of_getElem? h)
/-- a body's contract: what it returns and leaves -/
abbrev own_met (l : Launch) (y : MethodName) (b : ByteArray) (ml : Nat) (rt : Option FieldType) (ws : List Jvm.Cond) (R : Room) (Z : State) (A : Array Value) (h0 : Heap) (Q : Option Value → Heap → List Loc → Prop) : Prop :=
  MetFree l y (head1 (Jvm.Cond.code y b ml rt :: ws) R) (fun a U => a = A ∧ Z.Warmed39 U.vm ∧ U.heap = h0) (fun _ _ _ _ _ => True) (fun _ U o U' => ∃ v L, o = .returned v ∧ Q v U'.heap L ∧ FrameEnd U o U' L R.cells R.slots)
theorem own_start {l : Launch} {y : MethodName} {b : ByteArray} {ml : Nat} {rt : Option FieldType} {ws : List Jvm.Cond} {R : Room} {Z : State} {A : Array Value} {h0 : Heap} {Q : Option Value → Heap → List Loc → Prop} {Ls : Array Slot}
    (hpl : plainFor y = true) (hef : ∀ m, entryFrame m A ml = mkF m 0 Ls [])
    (body : ∀ p e s m below meth c s₁, p.tables.exec = Jvm.exec → c.code = b → c.maxLocals = ml → s.vm.findClass y.cls = some m.cls → meth.name = y.name → Stand p l e R s m A below meth c s₁ [] 0 0 → Z.Warmed39 s.vm → s₁.heap = h0 → meth.sig.returnType = rt → meth.locks = false →
      ∃ s₂ o, Steps p.tables e below (s₁.setTop (mkF m 0 Ls [])) s₂ ∧ s₂.status = .running ∧ Ended s₂ below o ∧ ∃ v L, o = .returned v ∧ Q v s₂.heap L ∧ FrameEnd s o s₂ L R.cells R.slots) : own_met l y b ml rt ws R Z A h0 Q := by
  refine MetFree.of_bodySF hpl hisR ?_
  intro p e s m args below meth c s₁ Bd hml0 hP hK
  obtain ⟨rfl, hZ, hh⟩ := hP
  obtain ⟨s₂, o, k, r⟩ := body p e s m below meth c s₁ Bd.exec Bd.bytes hml0 (findClass_of_methodNamed Bd.named) (name_of_methodNamed Bd.named Bd.method).1 (Stand.of_body Bd) hZ (by rw [← hh, Bd.state]; rfl) Bd.returns Bd.notSynchronized
  exact ⟨s₂, o, castTop (hef m) k, r⟩
section OwnCalls
variable {p : Program} {l : Launch} {e : Env} {R : Room} {s : State} {m : MethodId} {args : Array Value} {below : List Frame} {meth : Method} {c : Code} {T : State} {locs : List Loc} {cells slots : Nat} {Z : State} {a0 : Array Value} {h : Heap} {own : String} {index : Nat} {y z : MethodName} {b : ByteArray} {ml : Nat} {rt : Option FieldType} {rm : Room} {as' : Array Value} {Q : Option Value → Heap → List Loc → Prop} {W : Nat} {g : JFrame} {argsL rest : List Value}
theorem own_static (X : Stand p l e R s m args below meth c T locs cells slots) (hx : p.tables.exec = Jvm.exec) (hZ : Z.Warmed39 s.vm) (hown : s.vm.findClass own = some m.cls) (w1 : (Jvm.Cond.methodLink own index y).before a0 Z = true) (w2 : (Jvm.Cond.static y).before a0 Z = true) (w3 : (Jvm.Cond.initialized y.cls).before a0 Z = true) (w4 : (Jvm.Cond.code y b ml rt).before a0 Z = true)
    (hy : y.cls ≠ "java/lang/invoke/MethodHandle" ∧ y.cls ≠ "java/lang/invoke/VarHandle") (hM : own_met l y b ml rt [] rm Z as' h Q) (hf : rm.frames + 1 ≤ R.frames) (hl : W + (ml + 11) + rm.locals ≤ R.locals) (eT : T.heap = h) (hg : g.method = m) (hsize : g.locals.size = c.maxLocals) (hlen : ∀ sig, parseMethodDescriptor y.desc = some sig → argsL.length = sig.parameters.length) (ha : argsL.toArray = as')
    (hs : g.stack = argsL.reverse ++ rest) (hW : 2 * g.monitorRoom + (rest.map fun v => v.category).sum ≤ W) (hd : decode c.code g.pc = .ok (.invokestatic index, 3)) (hc : cells + rm.cells ≤ R.cells) (hsl : slots + rm.slots ≤ R.slots) :
    ∃ v T' L, Stand p l e R s m args below meth c T' (locs ++ L) (cells + rm.cells) (slots + rm.slots) ∧ Q v T'.heap L ∧ ∀ target, Steps p.tables e below (T'.setTop { g with pc := g.pc + 3, stack := v.toList ++ rest }) target → Steps p.tables e below (T.setTop g) target := by
  obtain ⟨v, _, ⟨T', L', k', n'⟩, -, X', ⟨Lc, hQ, l1, y1, z1⟩, st⟩ := Jvm.LawKit.callS X hx (y := y) hown (mvT hZ w1) (mvT hZ w2) (mvT hZ w3) (mvT hZ w4) hy (backOf (W := W) hM hZ w4 w3 hf hl) (g := g) hg hsize (argsL := argsL) (rest := rest) hlen hs hW hd (fun _ _ => ⟨ha, eT, hc, hsl⟩)
  dsimp only [Pt.U, Pt.locs, Pt.cells, Pt.slots] at X' l1 y1 z1 st hQ
  subst l1 y1 z1
  exact ⟨v, T', Lc, X', hQ, st⟩
theorem own_special (X : Stand p l e R s m args below meth c T locs cells slots) (hx : p.tables.exec = Jvm.exec) (hZ : Z.Warmed39 s.vm) (hown : s.vm.findClass own = some m.cls) (hn : y.name = "<init>") (w1 : (Jvm.Cond.methodLink own index y).before a0 Z = true) (w2 : (Jvm.Cond.instanceMethod y).before a0 Z = true) (w3 : (Jvm.Cond.initialized y.cls).before a0 Z = true) (w4 : (Jvm.Cond.code y b ml none).before a0 Z = true)
    (hy : y.cls ≠ "java/lang/invoke/MethodHandle" ∧ y.cls ≠ "java/lang/invoke/VarHandle") (hM : own_met l y b ml none [] rm Z as' h Q) (hf : rm.frames + 1 ≤ R.frames) (hl : W + (ml + 11) + rm.locals ≤ R.locals) (eT : T.heap = h) (hg : g.method = m) (hsize : g.locals.size = c.maxLocals) (a : Addr) (hlen : ∀ sig, parseMethodDescriptor y.desc = some sig → argsL.length = sig.parameters.length) (ha : (Value.ref a :: argsL).toArray = as')
    (hs : g.stack = argsL.reverse ++ .ref a :: rest) (hW : 2 * g.monitorRoom + (rest.map fun v => v.category).sum ≤ W) (hd : decode c.code g.pc = .ok (.invokespecial index, 3)) (hc : cells + rm.cells ≤ R.cells) (hsl : slots + rm.slots ≤ R.slots) :
    ∃ v T' L, Stand p l e R s m args below meth c T' (locs ++ L) (cells + rm.cells) (slots + rm.slots) ∧ Q v T'.heap L ∧ ∀ target, Steps p.tables e below (T'.setTop { g with pc := g.pc + 3, stack := v.toList ++ rest }) target → Steps p.tables e below (T.setTop g) target := by
  obtain ⟨v, _, ⟨T', L', k', n'⟩, -, X', ⟨Lc, hQ, l1, y1, z1⟩, st⟩ := X.specialBack hx (y := y) hn hown (mvT hZ w1) (mvT hZ w2) (mvT hZ w4) hy (backOf (W := W) hM hZ w4 w3 hf hl) (g := g) hg hsize (Steps.refl _) (a := a) (argsL := argsL) (rest := rest) hlen hs hW hd (fun _ _ => ⟨ha, eT, hc, hsl⟩)
  dsimp only [Pt.U, Pt.locs, Pt.cells, Pt.slots] at X' l1 y1 z1 st hQ
  subst l1 y1 z1
  exact ⟨v, T', Lc, X', hQ, fun _ k => st.trans k⟩
theorem own_virtual (X : Stand p l e R s m args below meth c T locs cells slots) (hx : p.tables.exec = Jvm.exec) (hZ : Z.Warmed39 s.vm) (hown : s.vm.findClass own = some m.cls) {C : String} (w1 : (Jvm.Cond.methodLink own index y).before a0 Z = true) (w5 : (Jvm.Cond.declares y).before a0 Z = true) (w6 : (Jvm.Cond.selects C y y).before a0 Z = true) (w2 : (Jvm.Cond.instanceMethod y).before a0 Z = true) (w3 : (Jvm.Cond.initialized y.cls).before a0 Z = true) (w4 : (Jvm.Cond.code y b ml rt).before a0 Z = true)
    (hy : y.cls ≠ "java/lang/invoke/MethodHandle" ∧ y.cls ≠ "java/lang/invoke/VarHandle") (hM : own_met l y b ml rt [] rm Z as' h Q) (hf : rm.frames + 1 ≤ R.frames) (hl : W + (ml + 11) + rm.locals ≤ R.locals) (eT : T.heap = h) {a : Addr} (E : Exa Z h a C) (hg : g.method = m) (hsize : g.locals.size = c.maxLocals) (hlen : ∀ sig, parseMethodDescriptor y.desc = some sig → argsL.length = sig.parameters.length) (ha : (Value.ref a :: argsL).toArray = as')
    (hs : g.stack = argsL.reverse ++ .ref a :: rest) (hW : 2 * g.monitorRoom + (rest.map fun v => v.category).sum ≤ W) (hd : decode c.code g.pc = .ok (.invokevirtual index, 3)) (hc : cells + rm.cells ≤ R.cells) (hsl : slots + rm.slots ≤ R.slots) :
    ∃ v T' L, Stand p l e R s m args below meth c T' (locs ++ L) (cells + rm.cells) (slots + rm.slots) ∧ Q v T'.heap L ∧ ∀ target, Steps p.tables e below (T'.setTop { g with pc := g.pc + 3, stack := v.toList ++ rest }) target → Steps p.tables e below (T.setTop g) target := by
  obtain ⟨cq, kq, qa, qb, qc⟩ := isOf hZ eT E
  obtain ⟨v, _, ⟨T', L', k', n'⟩, -, X', ⟨Lc, hQ, l1, y1, z1⟩, st⟩ := X.virtualBack hx (y := y) (z := y) hown (mvT hZ w1) (mvT hZ w5) (notFace_of_selects (args := #[]) (mvT hZ w6)) (mvT hZ w6) (mvT hZ w2) hy (backOf (W := W) hM hZ w4 w3 hf hl) qa qc (g := g) hg hsize (Steps.refl _) (argsL := argsL) (rest := rest) hlen hs hW hd (fun _ _ => ⟨ha, eT, hc, hsl⟩)
  dsimp only [Pt.U, Pt.locs, Pt.cells, Pt.slots] at X' l1 y1 z1 st hQ
  subst l1 y1 z1
  exact ⟨v, T', Lc, X', hQ, fun _ k => st.trans k⟩
theorem own_virtualUp (X : Stand p l e R s m args below meth c T locs cells slots) (hx : p.tables.exec = Jvm.exec) (hZ : Z.Warmed39 s.vm) (hown : s.vm.findClass own = some m.cls) {C owner : String} (w1 : (Jvm.Cond.methodLink own index z).before a0 Z = true) (w7 : (Jvm.Cond.sameMethod z.cls owner z.name z.desc).before a0 Z = true) (w5 : (Jvm.Cond.declares ⟨owner, z.name, z.desc⟩).before a0 Z = true) (w6 : (Jvm.Cond.selects C z y).before a0 Z = true) (w2 : (Jvm.Cond.instanceMethod y).before a0 Z = true) (w3 : (Jvm.Cond.initialized y.cls).before a0 Z = true) (w4 : (Jvm.Cond.code y b ml rt).before a0 Z = true)
    (hy : owner ≠ "java/lang/invoke/MethodHandle" ∧ owner ≠ "java/lang/invoke/VarHandle") (hM : own_met l y b ml rt [] rm Z as' h Q) (hf : rm.frames + 1 ≤ R.frames) (hl : W + (ml + 11) + rm.locals ≤ R.locals) (eT : T.heap = h) {a : Addr} (E : Exa Z h a C) (hg : g.method = m) (hsize : g.locals.size = c.maxLocals) (hlen : ∀ sig, parseMethodDescriptor z.desc = some sig → argsL.length = sig.parameters.length) (ha : (Value.ref a :: argsL).toArray = as')
    (hs : g.stack = argsL.reverse ++ .ref a :: rest) (hW : 2 * g.monitorRoom + (rest.map fun v => v.category).sum ≤ W) (hd : decode c.code g.pc = .ok (.invokevirtual index, 3)) (hc : cells + rm.cells ≤ R.cells) (hsl : slots + rm.slots ≤ R.slots) :
    ∃ v T' L, Stand p l e R s m args below meth c T' (locs ++ L) (cells + rm.cells) (slots + rm.slots) ∧ Q v T'.heap L ∧ ∀ target, Steps p.tables e below (T'.setTop { g with pc := g.pc + 3, stack := v.toList ++ rest }) target → Steps p.tables e below (T.setTop g) target := by
  obtain ⟨cq, kq, qa, qb, qc⟩ := isOf hZ eT E
  obtain ⟨v, _, ⟨T', L', k', n'⟩, -, X', ⟨Lc, hQ, l1, y1, z1⟩, st⟩ := X.virtualBackUp hx (x := z) (y := y) (owner := owner) hown (mvT hZ w1) (mvT hZ w7) (mvT hZ w5) hy (mvT hZ w6) (mvT hZ w2) (backOf (W := W) hM hZ w4 w3 hf hl) qa qc (g := g) hg hsize (Steps.refl _) (argsL := argsL) (rest := rest) hlen hs hW hd (fun _ _ => ⟨ha, eT, hc, hsl⟩)
  dsimp only [Pt.U, Pt.locs, Pt.cells, Pt.slots] at X' l1 y1 z1 st hQ
  subst l1 y1 z1
  exact ⟨v, T', Lc, X', hQ, fun _ k => st.trans k⟩
end OwnCalls

theorem own_split (p1 : Int32) : ((p1 &&& (2147483647 : Int32)) % (3 : Int32)) = (0 : Int32) ∨ ((p1 &&& (2147483647 : Int32)) % (3 : Int32)) = (1 : Int32) ∨ ((p1 &&& (2147483647 : Int32)) % (3 : Int32)) = (2 : Int32) := by
  have h := c_mask p1 (2147483647 : Int32) 31 (by decide) (by decide)
  have hk : ((2 ^ 31 : Nat) : Int) = 2147483648 := by decide
  rw [hk] at h
  have h2 := (c_irem (p1 &&& (2147483647 : Int32)) (3 : Int32) 3 (by decide)).1 (by omega)
  have q : (((p1 &&& (2147483647 : Int32)) % (3 : Int32))).toInt = 0 ∨ (((p1 &&& (2147483647 : Int32)) % (3 : Int32))).toInt = 1 ∨ (((p1 &&& (2147483647 : Int32)) % (3 : Int32))).toInt = 2 := by omega
  rcases q with q | q | q
  · exact Or.inl (Int32.toInt_inj.mp (q.trans (by decide)))
  · exact Or.inr (Or.inl (Int32.toInt_inj.mp (q.trans (by decide))))
  · exact Or.inr (Or.inr ((Int32.toInt_inj.mp (q.trans (by decide)))))
theorem pn_0 : plainName "com/example/zia_tally/ziatally/evaluation/Method" = true := by first | (simp [plainName, overriddenIn]; done) | decide +kernel
theorem pn_1 : plainName "java/lang/String" = true := by first | (simp [plainName, overriddenIn]; done) | decide +kernel
theorem pn_2 : plainName "jdk/internal/util/Preconditions" = true := by first | (simp [plainName, overriddenIn]; done) | decide +kernel
theorem pn_3 : plainName "java/lang/StringLatin1" = true := by first | (simp [plainName, overriddenIn]; done) | decide +kernel
theorem pn_4 : plainName "com/example/zia_tally/ziatally/evaluation/MethodIsProposalPinLaw" = true := by first | (simp [plainName, overriddenIn]; done) | decide +kernel
theorem pd_0 : parseMethodDescriptor "()Z" = some ⟨[], some .boolean⟩ := by decide +kernel
theorem pd_1 : parseMethodDescriptor "(Z)Lcom/example/zia_tally/ziatally/evaluation/Outcome;" = some ⟨[.boolean], some (.object "com/example/zia_tally/ziatally/evaluation/Outcome")⟩ := by decide +kernel
theorem pd_2 : parseMethodDescriptor "()Ljava/lang/String;" = some ⟨[], some (.object "java/lang/String")⟩ := by decide +kernel
theorem pd_3 : parseMethodDescriptor "(IILjava/util/function/BiFunction;)I" = some ⟨[.int, .int, (.object "java/util/function/BiFunction")], some .int⟩ := by decide +kernel
theorem pd_4 : parseMethodDescriptor "(II)V" = some ⟨[.int, .int], none⟩ := by decide +kernel
theorem pd_5 : parseMethodDescriptor "([BI)C" = some ⟨[(.array .byte), .int], some .char⟩ := by decide +kernel
theorem pd_6 : parseMethodDescriptor "(I)C" = some ⟨[.int], some .char⟩ := by decide +kernel
abbrev y_0 : MethodName := ⟨"com/example/zia_tally/ziatally/evaluation/Method", "isProposal", "()Z"⟩
abbrev y_1 : MethodName := ⟨"com/example/zia_tally/ziatally/evaluation/Method", "outcome", "(Z)Lcom/example/zia_tally/ziatally/evaluation/Outcome;"⟩
abbrev y_2 : MethodName := ⟨"com/example/zia_tally/ziatally/evaluation/Method", "code", "()Ljava/lang/String;"⟩
abbrev y_3 : MethodName := ⟨"java/lang/String", "isEmpty", "()Z"⟩
abbrev y_4 : MethodName := ⟨"java/lang/String", "isLatin1", "()Z"⟩
abbrev y_5 : MethodName := ⟨"jdk/internal/util/Preconditions", "checkIndex", "(IILjava/util/function/BiFunction;)I"⟩
abbrev y_6 : MethodName := ⟨"java/lang/String", "checkIndex", "(II)V"⟩
abbrev y_7 : MethodName := ⟨"java/lang/StringLatin1", "charAt", "([BI)C"⟩
abbrev y_8 : MethodName := ⟨"java/lang/String", "charAt", "(I)C"⟩
theorem d_prog_7_method_5_0 : decode prog_7_method_5_code 0 = .ok (.aload_n 0, 1) := by decide +kernel
theorem d_prog_7_method_5_1 : decode prog_7_method_5_code 1 = .ok (.getstatic 3, 3) := by decide +kernel
theorem d_prog_7_method_5_4 : decode prog_7_method_5_code 4 = .ok (.if_acmp .eq 7, 3) := by decide +kernel
theorem d_prog_7_method_5_11 : decode prog_7_method_5_code 11 = .ok (.iconst 0, 1) := by decide +kernel
theorem d_prog_7_method_5_12 : decode prog_7_method_5_code 12 = .ok (.ireturn, 1) := by decide +kernel
theorem d_prog_7_method_7_0 : decode prog_7_method_7_code 0 = .ok (.iload_n 1, 1) := by decide +kernel
theorem d_prog_7_method_7_1 : decode prog_7_method_7_code 1 = .ok (.ifCond .eq 10, 3) := by decide +kernel
theorem d_prog_7_method_7_11 : decode prog_7_method_7_code 11 = .ok (.aload_n 0, 1) := by decide +kernel
theorem d_prog_7_method_7_12 : decode prog_7_method_7_code 12 = .ok (.getfield 40, 3) := by decide +kernel
theorem d_prog_7_method_7_15 : decode prog_7_method_7_code 15 = .ok (.areturn, 1) := by decide +kernel
theorem d_prog_7_method_7_4 : decode prog_7_method_7_code 4 = .ok (.aload_n 0, 1) := by decide +kernel
theorem d_prog_7_method_7_5 : decode prog_7_method_7_code 5 = .ok (.getfield 44, 3) := by decide +kernel
theorem d_prog_7_method_7_8 : decode prog_7_method_7_code 8 = .ok (.goto 7, 3) := by decide +kernel
theorem d_prog_7_method_4_0 : decode prog_7_method_4_code 0 = .ok (.aload_n 0, 1) := by decide +kernel
theorem d_prog_7_method_4_1 : decode prog_7_method_4_code 1 = .ok (.getfield 32, 3) := by decide +kernel
theorem d_prog_7_method_4_4 : decode prog_7_method_4_code 4 = .ok (.areturn, 1) := by decide +kernel
theorem d_jdk_42_method_55_0 : decode jdk_42_method_55_code 0 = .ok (.aload_n 0, 1) := by decide +kernel
theorem d_jdk_42_method_55_1 : decode jdk_42_method_55_code 1 = .ok (.getfield 9, 3) := by decide +kernel
theorem d_jdk_42_method_55_4 : decode jdk_42_method_55_code 4 = .ok (.arraylength, 1) := by decide +kernel
theorem d_jdk_42_method_55_5 : decode jdk_42_method_55_code 5 = .ok (.ifCond .ne 7, 3) := by decide +kernel
theorem d_jdk_42_method_55_12 : decode jdk_42_method_55_code 12 = .ok (.iconst 0, 1) := by decide +kernel
theorem d_jdk_42_method_55_13 : decode jdk_42_method_55_code 13 = .ok (.ireturn, 1) := by decide +kernel
theorem d_jdk_42_method_56_0 : decode jdk_42_method_56_code 0 = .ok (.aload_n 0, 1) := by decide +kernel
theorem d_jdk_42_method_56_1 : decode jdk_42_method_56_code 1 = .ok (.invokevirtual 492, 3) := by decide +kernel
theorem d_jdk_42_method_154_0 : decode jdk_42_method_154_code 0 = .ok (.getstatic 38, 3) := by decide +kernel
theorem d_jdk_42_method_154_3 : decode jdk_42_method_154_code 3 = .ok (.ifCond .eq 14, 3) := by decide +kernel
theorem d_jdk_42_method_154_6 : decode jdk_42_method_154_code 6 = .ok (.aload_n 0, 1) := by decide +kernel
theorem d_jdk_42_method_154_7 : decode jdk_42_method_154_code 7 = .ok (.getfield 15, 3) := by decide +kernel
theorem d_jdk_42_method_154_10 : decode jdk_42_method_154_code 10 = .ok (.ifCond .ne 7, 3) := by decide +kernel
theorem d_jdk_42_method_154_13 : decode jdk_42_method_154_code 13 = .ok (.iconst 1, 1) := by decide +kernel
theorem d_jdk_42_method_154_14 : decode jdk_42_method_154_code 14 = .ok (.goto 4, 3) := by decide +kernel
theorem d_jdk_42_method_154_18 : decode jdk_42_method_154_code 18 = .ok (.ireturn, 1) := by decide +kernel
theorem d_jdk_42_method_56_4 : decode jdk_42_method_56_code 4 = .ok (.ifCond .eq 12, 3) := by decide +kernel
theorem d_jdk_42_method_56_7 : decode jdk_42_method_56_code 7 = .ok (.aload_n 0, 1) := by decide +kernel
theorem d_jdk_42_method_56_8 : decode jdk_42_method_56_code 8 = .ok (.getfield 9, 3) := by decide +kernel
theorem d_jdk_42_method_56_11 : decode jdk_42_method_56_code 11 = .ok (.iload_n 1, 1) := by decide +kernel
theorem d_jdk_42_method_56_12 : decode jdk_42_method_56_code 12 = .ok (.invokestatic 495, 3) := by decide +kernel
theorem d_jdk_43_method_2_0 : decode jdk_43_method_2_code 0 = .ok (.iload_n 1, 1) := by decide +kernel
theorem d_jdk_43_method_2_1 : decode jdk_43_method_2_code 1 = .ok (.aload_n 0, 1) := by decide +kernel
theorem d_jdk_43_method_2_2 : decode jdk_43_method_2_code 2 = .ok (.arraylength, 1) := by decide +kernel
theorem d_jdk_43_method_2_3 : decode jdk_43_method_2_code 3 = .ok (.invokestatic 9, 3) := by decide +kernel
theorem d_jdk_42_method_155_0 : decode jdk_42_method_155_code 0 = .ok (.iload_n 0, 1) := by decide +kernel
theorem d_jdk_42_method_155_1 : decode jdk_42_method_155_code 1 = .ok (.iload_n 1, 1) := by decide +kernel
theorem d_jdk_42_method_155_2 : decode jdk_42_method_155_code 2 = .ok (.getstatic 1053, 3) := by decide +kernel
theorem d_jdk_42_method_155_5 : decode jdk_42_method_155_code 5 = .ok (.invokestatic 1059, 3) := by decide +kernel
theorem d_jdk_41_method_11_0 : decode jdk_41_method_11_code 0 = .ok (.iload_n 0, 1) := by decide +kernel
theorem d_jdk_41_method_11_1 : decode jdk_41_method_11_code 1 = .ok (.ifCond .lt 8, 3) := by decide +kernel
theorem d_jdk_41_method_11_4 : decode jdk_41_method_11_code 4 = .ok (.iload_n 0, 1) := by decide +kernel
theorem d_jdk_41_method_11_5 : decode jdk_41_method_11_code 5 = .ok (.iload_n 1, 1) := by decide +kernel
theorem d_jdk_41_method_11_6 : decode jdk_41_method_11_code 6 = .ok (.if_icmp .lt 10, 3) := by decide +kernel
theorem d_jdk_41_method_11_16 : decode jdk_41_method_11_code 16 = .ok (.iload_n 0, 1) := by decide +kernel
theorem d_jdk_41_method_11_17 : decode jdk_41_method_11_code 17 = .ok (.ireturn, 1) := by decide +kernel
theorem d_jdk_42_method_155_8 : decode jdk_42_method_155_code 8 = .ok (.pop, 1) := by decide +kernel
theorem d_jdk_42_method_155_9 : decode jdk_42_method_155_code 9 = .ok (.return_, 1) := by decide +kernel
theorem d_jdk_43_method_2_6 : decode jdk_43_method_2_code 6 = .ok (.aload_n 0, 1) := by decide +kernel
theorem d_jdk_43_method_2_7 : decode jdk_43_method_2_code 7 = .ok (.iload_n 1, 1) := by decide +kernel
theorem d_jdk_43_method_2_8 : decode jdk_43_method_2_code 8 = .ok (.baload, 1) := by decide +kernel
theorem d_jdk_43_method_2_9 : decode jdk_43_method_2_code 9 = .ok (.sipush 255, 3) := by decide +kernel
theorem d_jdk_43_method_2_12 : decode jdk_43_method_2_code 12 = .ok (.iand, 1) := by decide +kernel
theorem d_jdk_43_method_2_13 : decode jdk_43_method_2_code 13 = .ok (.i2c, 1) := by decide +kernel
theorem d_jdk_43_method_2_14 : decode jdk_43_method_2_code 14 = .ok (.ireturn, 1) := by decide +kernel
theorem d_jdk_42_method_56_15 : decode jdk_42_method_56_code 15 = .ok (.ireturn, 1) := by decide +kernel
theorem d_prog_7_method_5_7 : decode prog_7_method_5_code 7 = .ok (.iconst 1, 1) := by decide +kernel
theorem d_prog_7_method_5_8 : decode prog_7_method_5_code 8 = .ok (.goto 4, 3) := by decide +kernel
theorem ef_prog_7_method_5_R (m : MethodId) (x0 : Addr) : entryFrame m #[(.ref x0)] 1 = mkF m 0 #[.val (.ref x0)] [] := by first | (simp [entryFrame, mkF, argsToLocals, Value.category]; done) | rfl
theorem ef_prog_7_method_7_RI (m : MethodId) (x0 : Addr) (x1 : Int32) : entryFrame m #[(.ref x0), (.int x1)] 2 = mkF m 0 #[.val (.ref x0), .val (.int x1)] [] := by first | (simp [entryFrame, mkF, argsToLocals, Value.category]; done) | rfl
theorem ef_prog_7_method_4_R (m : MethodId) (x0 : Addr) : entryFrame m #[(.ref x0)] 1 = mkF m 0 #[.val (.ref x0)] [] := by first | (simp [entryFrame, mkF, argsToLocals, Value.category]; done) | rfl
theorem ef_jdk_42_method_55_R (m : MethodId) (x0 : Addr) : entryFrame m #[(.ref x0)] 1 = mkF m 0 #[.val (.ref x0)] [] := by first | (simp [entryFrame, mkF, argsToLocals, Value.category]; done) | rfl
theorem ef_jdk_42_method_154_R (m : MethodId) (x0 : Addr) : entryFrame m #[(.ref x0)] 1 = mkF m 0 #[.val (.ref x0)] [] := by first | (simp [entryFrame, mkF, argsToLocals, Value.category]; done) | rfl
theorem ef_jdk_41_method_11_IIX (m : MethodId) (x0 : Int32) (x1 : Int32) (x2 : Value) (y2 : x2.isRef = true) : entryFrame m #[(.int x0), (.int x1), x2] 3 = mkF m 0 #[.val (.int x0), .val (.int x1), .val x2] [] := by rcases ref_cases y2 with rfl | ⟨y2', rfl⟩ <;> first | (simp [entryFrame, mkF, argsToLocals, Value.category]; done) | rfl
theorem ef_jdk_42_method_155_II (m : MethodId) (x0 : Int32) (x1 : Int32) : entryFrame m #[(.int x0), (.int x1)] 2 = mkF m 0 #[.val (.int x0), .val (.int x1)] [] := by first | (simp [entryFrame, mkF, argsToLocals, Value.category]; done) | rfl
theorem ef_jdk_43_method_2_RI (m : MethodId) (x0 : Addr) (x1 : Int32) : entryFrame m #[(.ref x0), (.int x1)] 2 = mkF m 0 #[.val (.ref x0), .val (.int x1)] [] := by first | (simp [entryFrame, mkF, argsToLocals, Value.category]; done) | rfl
theorem ef_jdk_42_method_56_RI (m : MethodId) (x0 : Addr) (x1 : Int32) : entryFrame m #[(.ref x0), (.int x1)] 2 = mkF m 0 #[.val (.ref x0), .val (.int x1)] [] := by first | (simp [entryFrame, mkF, argsToLocals, Value.category]; done) | rfl
theorem ef_code_I (m : MethodId) (x0 : Int32) : entryFrame m #[(.int x0)] maxLocals = mkF m 0 #[.val (.int x0), .unset, .unset, .unset, .unset, .unset, .unset, .unset, .unset, .unset, .unset, .unset] [] := by first | (simp [entryFrame, mkF, argsToLocals, Value.category, maxLocals]; done) | rfl
def Qrm12 (Z : State) (w_BID : Addr) (h0 : Heap) (v : Option Value) (h : Heap) (L : List Loc) : Prop := v = some (.int (0 : Int32)) ∧ Fr Z.heap.size L ∧ h = h0
set_option maxRecDepth 65536 in
set_option maxHeartbeats 40000000 in
theorem rm12 (l : Launch) (Z : State) (a0 : Array Value) (hw : ∀ d ∈ tables_1, d.before a0 Z = true) (ws : List Jvm.Cond) (w_BID : Addr) (h0 : Heap) (Z0 : Ext Z.heap h0) (S_w_BID : Sta Z Z.heap "com/example/zia_tally/ziatally/evaluation/Method" "BID" "Lcom/example/zia_tally/ziatally/evaluation/Method;" (.ref w_BID)) :
    own_met l y_0 prog_7_method_5_code 1 (some .boolean) ws ({ frames := 0, cells := 0, slots := 0, locals := 0 } : Room) Z #[(.ref w_BID)] h0 (Qrm12 Z w_BID h0) := by
  refine own_start (plainFor_of_name pn_0) (fun m => ef_prog_7_method_5_R m w_BID) ?_
  intro p e s m below meth c s₁ hx hby hml hown hnm X0 hZ e0 hret hlk
  have N0 := Fr.nil Z.heap.size
  obtain ⟨T13, X13, e13, st13⟩ := getS2 X0 hx hZ hown (host := "") (Or.inl (own_w hw 16 rfl)) Via.refl e0 (S_w_BID.ext Z0) (g := (mkF m 1 #[.val (.ref w_BID)] [(.ref w_BID)])) rfl (hb hby d_prog_7_method_5_1)
  obtain ⟨fs, hr, hrun, hended, hW, hsame⟩ := X13.leave (v := some (.int (0 : Int32))) (fun h => by rw [hret] at h; cases h) hlk
  refine ⟨_, _, ?_, hrun, hended, _, _, rfl, ?_, ⟨_, rfl⟩, hW, hsame.mono (by decide) (by decide)⟩
  · show own_S p e below s₁ (mkF m 0 #[.val (.ref w_BID)] []) _
    refine XS.aloadN X0.here hx rfl (hb hby d_prog_7_method_5_0) rfl rfl ?_
    show own_S p e below s₁ (mkF m 1 #[.val (.ref w_BID)] [(.ref w_BID)]) _
    refine st13 _ ?_
    show own_S p e below T13 (mkF m 4 #[.val (.ref w_BID)] [(.ref w_BID), (.ref w_BID)]) _
    refine Jvm.RoadKit.acmp (g := (mkF m 4 #[.val (.ref w_BID)] [(.ref w_BID), (.ref w_BID)])) X13 hx rfl rfl rfl (pc0 := 4) (pc' := 11) (same := true) rfl (hb hby d_prog_7_method_5_4) rfl (decide_eq_true rfl) (by decide) (by decide) ?_
    show own_S p e below T13 (mkF m 11 #[.val (.ref w_BID)] []) _
    refine XS.iconst X13.here hx rfl (hb hby d_prog_7_method_5_11) ?_
    show own_S p e below T13 (mkF m 12 #[.val (.ref w_BID)] [(.int (0 : Int32))]) _
    exact retN X13 hx (t := .boolean) hret (by simp) (hb hby d_prog_7_method_5_12) hr
  · show Qrm12 Z w_BID h0 _ T13.heap _
    rw [e13]
    exact ⟨rfl, N0, rfl⟩
def Qrm15 (Z : State) (w_BID : Addr) (w_LOW_BIDDER : Addr) (h0 : Heap) (v : Option Value) (h : Heap) (L : List Loc) : Prop := v = some (.ref w_LOW_BIDDER) ∧ Fr Z.heap.size L ∧ h = h0
set_option maxRecDepth 65536 in
set_option maxHeartbeats 40000000 in
theorem rm15 (l : Launch) (Z : State) (a0 : Array Value) (hw : ∀ d ∈ tables_1, d.before a0 Z = true) (ws : List Jvm.Cond) (w_BID : Addr) (w_LOW_BIDDER : Addr) (h0 : Heap) (Z0 : Ext Z.heap h0) (F_w_BID_single : Fld Z Z.heap w_BID "com/example/zia_tally/ziatally/evaluation/Method" "single" "Lcom/example/zia_tally/ziatally/evaluation/Outcome;" (.ref w_LOW_BIDDER)) :
    own_met l y_1 prog_7_method_7_code 2 (some (.object "com/example/zia_tally/ziatally/evaluation/Outcome")) ws ({ frames := 0, cells := 0, slots := 0, locals := 0 } : Room) Z #[(.ref w_BID), (.int (0 : Int32))] h0 (Qrm15 Z w_BID w_LOW_BIDDER h0) := by
  refine own_start (plainFor_of_name pn_0) (fun m => ef_prog_7_method_7_RI m w_BID (0 : Int32)) ?_
  intro p e s m below meth c s₁ hx hby hml hown hnm X0 hZ e0 hret hlk
  have N0 := Fr.nil Z.heap.size
  obtain ⟨T16, X16, e16, st16⟩ := getF X0 hx hZ hown (host := "") (Or.inl (own_w hw 22 rfl)) Via.refl e0 (F_w_BID_single.ext Z0) (g := (mkF m 12 #[.val (.ref w_BID), .val (.int (0 : Int32))] [(.ref w_BID)])) rfl rfl (hb hby d_prog_7_method_7_12)
  obtain ⟨fs, hr, hrun, hended, hW, hsame⟩ := X16.leave (v := some (.ref w_LOW_BIDDER)) (fun h => by rw [hret] at h; cases h) hlk
  refine ⟨_, _, ?_, hrun, hended, _, _, rfl, ?_, ⟨_, rfl⟩, hW, hsame.mono (by decide) (by decide)⟩
  · show own_S p e below s₁ (mkF m 0 #[.val (.ref w_BID), .val (.int (0 : Int32))] []) _
    refine XS.iloadN X0.here hx rfl (hb hby d_prog_7_method_7_0) rfl ?_
    show own_S p e below s₁ (mkF m 1 #[.val (.ref w_BID), .val (.int (0 : Int32))] [(.int (0 : Int32))]) _
    refine XS.ifYes X0.here hx rfl (pc0 := 1) (pc' := 11) rfl (hb hby d_prog_7_method_7_1) rfl ((if0 _ _).trans (teq (rfl : (0 : Int32) = (0 : Int32))).1) (by decide) (by decide) ?_
    show own_S p e below s₁ (mkF m 11 #[.val (.ref w_BID), .val (.int (0 : Int32))] []) _
    refine XS.aloadN X0.here hx rfl (hb hby d_prog_7_method_7_11) rfl rfl ?_
    show own_S p e below s₁ (mkF m 12 #[.val (.ref w_BID), .val (.int (0 : Int32))] [(.ref w_BID)]) _
    refine st16 _ ?_
    show own_S p e below T16 (mkF m 15 #[.val (.ref w_BID), .val (.int (0 : Int32))] [(.ref w_LOW_BIDDER)]) _
    jvm_step X16.here [X16.here.top, hx, (hb hby d_prog_7_method_7_15), X16.method', hret, Value.isRef, FieldType.isReference]
    first | (intro acts; rw [hr _ acts rfl rfl rfl]) | rw [hr _ _ rfl rfl rfl]
    exact Steps.refl _
  · show Qrm15 Z w_BID w_LOW_BIDDER h0 _ T16.heap _
    rw [e16]
    exact ⟨rfl, N0, rfl⟩
def Qrm18 (Z : State) (w_BID : Addr) (w_IDENTICAL_LOW_BIDS : Addr) (h0 : Heap) (v : Option Value) (h : Heap) (L : List Loc) : Prop := v = some (.ref w_IDENTICAL_LOW_BIDS) ∧ Fr Z.heap.size L ∧ h = h0
set_option maxRecDepth 65536 in
set_option maxHeartbeats 40000000 in
theorem rm18 (l : Launch) (Z : State) (a0 : Array Value) (hw : ∀ d ∈ tables_1, d.before a0 Z = true) (ws : List Jvm.Cond) (w_BID : Addr) (w_IDENTICAL_LOW_BIDS : Addr) (h0 : Heap) (Z0 : Ext Z.heap h0) (F_w_BID_tied : Fld Z Z.heap w_BID "com/example/zia_tally/ziatally/evaluation/Method" "tied" "Lcom/example/zia_tally/ziatally/evaluation/Outcome;" (.ref w_IDENTICAL_LOW_BIDS)) :
    own_met l y_1 prog_7_method_7_code 2 (some (.object "com/example/zia_tally/ziatally/evaluation/Outcome")) ws ({ frames := 0, cells := 0, slots := 0, locals := 0 } : Room) Z #[(.ref w_BID), (.int (1 : Int32))] h0 (Qrm18 Z w_BID w_IDENTICAL_LOW_BIDS h0) := by
  refine own_start (plainFor_of_name pn_0) (fun m => ef_prog_7_method_7_RI m w_BID (1 : Int32)) ?_
  intro p e s m below meth c s₁ hx hby hml hown hnm X0 hZ e0 hret hlk
  have N0 := Fr.nil Z.heap.size
  obtain ⟨T19, X19, e19, st19⟩ := getF X0 hx hZ hown (host := "") (Or.inl (own_w hw 26 rfl)) Via.refl e0 (F_w_BID_tied.ext Z0) (g := (mkF m 5 #[.val (.ref w_BID), .val (.int (1 : Int32))] [(.ref w_BID)])) rfl rfl (hb hby d_prog_7_method_7_5)
  obtain ⟨fs, hr, hrun, hended, hW, hsame⟩ := X19.leave (v := some (.ref w_IDENTICAL_LOW_BIDS)) (fun h => by rw [hret] at h; cases h) hlk
  refine ⟨_, _, ?_, hrun, hended, _, _, rfl, ?_, ⟨_, rfl⟩, hW, hsame.mono (by decide) (by decide)⟩
  · show own_S p e below s₁ (mkF m 0 #[.val (.ref w_BID), .val (.int (1 : Int32))] []) _
    refine XS.iloadN X0.here hx rfl (hb hby d_prog_7_method_7_0) rfl ?_
    show own_S p e below s₁ (mkF m 1 #[.val (.ref w_BID), .val (.int (1 : Int32))] [(.int (1 : Int32))]) _
    refine XS.ifNo X0.here hx rfl (hb hby d_prog_7_method_7_1) rfl ((if0 _ _).trans (feq (by decide : ¬ ((1 : Int32) = (0 : Int32)))).1) ?_
    show own_S p e below s₁ (mkF m 4 #[.val (.ref w_BID), .val (.int (1 : Int32))] []) _
    refine XS.aloadN X0.here hx rfl (hb hby d_prog_7_method_7_4) rfl rfl ?_
    show own_S p e below s₁ (mkF m 5 #[.val (.ref w_BID), .val (.int (1 : Int32))] [(.ref w_BID)]) _
    refine st19 _ ?_
    show own_S p e below T19 (mkF m 8 #[.val (.ref w_BID), .val (.int (1 : Int32))] [(.ref w_IDENTICAL_LOW_BIDS)]) _
    refine XS.goto X19.here hx rfl (pc0 := 8) (pc' := 15) rfl (hb hby d_prog_7_method_7_8) (by decide) (by decide) ?_
    show own_S p e below T19 (mkF m 15 #[.val (.ref w_BID), .val (.int (1 : Int32))] [(.ref w_IDENTICAL_LOW_BIDS)]) _
    jvm_step X19.here [X19.here.top, hx, (hb hby d_prog_7_method_7_15), X19.method', hret, Value.isRef, FieldType.isReference]
    first | (intro acts; rw [hr _ acts rfl rfl rfl]) | rw [hr _ _ rfl rfl rfl]
    exact Steps.refl _
  · show Qrm18 Z w_BID w_IDENTICAL_LOW_BIDS h0 _ T19.heap _
    rw [e19]
    exact ⟨rfl, N0, rfl⟩
def Qrm21 (Z : State) (w_BID : Addr) (w_BID_code : Addr) (h0 : Heap) (v : Option Value) (h : Heap) (L : List Loc) : Prop := v = some (.ref w_BID_code) ∧ Fr Z.heap.size L ∧ h = h0
set_option maxRecDepth 65536 in
set_option maxHeartbeats 40000000 in
theorem rm21 (l : Launch) (Z : State) (a0 : Array Value) (hw : ∀ d ∈ tables_1, d.before a0 Z = true) (ws : List Jvm.Cond) (w_BID : Addr) (w_BID_code : Addr) (h0 : Heap) (Z0 : Ext Z.heap h0) (F_w_BID_code : Fld Z Z.heap w_BID "com/example/zia_tally/ziatally/evaluation/Method" "code" "Ljava/lang/String;" (.ref w_BID_code)) :
    own_met l y_2 prog_7_method_4_code 1 (some (.object "java/lang/String")) ws ({ frames := 0, cells := 0, slots := 0, locals := 0 } : Room) Z #[(.ref w_BID)] h0 (Qrm21 Z w_BID w_BID_code h0) := by
  refine own_start (plainFor_of_name pn_0) (fun m => ef_prog_7_method_4_R m w_BID) ?_
  intro p e s m below meth c s₁ hx hby hml hown hnm X0 hZ e0 hret hlk
  have N0 := Fr.nil Z.heap.size
  obtain ⟨T22, X22, e22, st22⟩ := getF X0 hx hZ hown (host := "") (Or.inl (own_w hw 34 rfl)) Via.refl e0 (F_w_BID_code.ext Z0) (g := (mkF m 1 #[.val (.ref w_BID)] [(.ref w_BID)])) rfl rfl (hb hby d_prog_7_method_4_1)
  obtain ⟨fs, hr, hrun, hended, hW, hsame⟩ := X22.leave (v := some (.ref w_BID_code)) (fun h => by rw [hret] at h; cases h) hlk
  refine ⟨_, _, ?_, hrun, hended, _, _, rfl, ?_, ⟨_, rfl⟩, hW, hsame.mono (by decide) (by decide)⟩
  · show own_S p e below s₁ (mkF m 0 #[.val (.ref w_BID)] []) _
    refine XS.aloadN X0.here hx rfl (hb hby d_prog_7_method_4_0) rfl rfl ?_
    show own_S p e below s₁ (mkF m 1 #[.val (.ref w_BID)] [(.ref w_BID)]) _
    refine st22 _ ?_
    show own_S p e below T22 (mkF m 4 #[.val (.ref w_BID)] [(.ref w_BID_code)]) _
    jvm_step X22.here [X22.here.top, hx, (hb hby d_prog_7_method_4_4), X22.method', hret, Value.isRef, FieldType.isReference]
    first | (intro acts; rw [hr _ acts rfl rfl rfl]) | rw [hr _ _ rfl rfl rfl]
    exact Steps.refl _
  · show Qrm21 Z w_BID w_BID_code h0 _ T22.heap _
    rw [e22]
    exact ⟨rfl, N0, rfl⟩
def Qrm24 (Z : State) (w_BID_code : Addr) (w_BID_code_value : Addr) (cl_w_BID_code_value : Cell) (h0 : Heap) (v : Option Value) (h : Heap) (L : List Loc) : Prop := v = some (.int (0 : Int32)) ∧ Fr Z.heap.size L ∧ h = h0
set_option maxRecDepth 65536 in
set_option maxHeartbeats 40000000 in
theorem rm24 (l : Launch) (Z : State) (a0 : Array Value) (hw : ∀ d ∈ tables_1, d.before a0 Z = true) (ws : List Jvm.Cond) (w_BID_code : Addr) (w_BID_code_value : Addr) (cl_w_BID_code_value : Cell) (h0 : Heap) (Z0 : Ext Z.heap h0) (F_w_BID_code_value : Fld Z Z.heap w_BID_code "java/lang/String" "value" "[B" (.ref w_BID_code_value)) (Ar_w_BID_code_value : Arr Z Z.heap w_BID_code_value cl_w_BID_code_value .byte) (Sz_w_BID_code_value : cl_w_BID_code_value.slots.size = (3 : Int32).toNatClampNeg) :
    own_met l y_3 jdk_42_method_55_code 1 (some .boolean) ws ({ frames := 0, cells := 0, slots := 0, locals := 0 } : Room) Z #[(.ref w_BID_code)] h0 (Qrm24 Z w_BID_code w_BID_code_value cl_w_BID_code_value h0) := by
  refine own_start (plainFor_of_name pn_1) (fun m => ef_jdk_42_method_55_R m w_BID_code) ?_
  intro p e s m below meth c s₁ hx hby hml hown hnm X0 hZ e0 hret hlk
  have N0 := Fr.nil Z.heap.size
  obtain ⟨T25, X25, e25, st25⟩ := getF X0 hx hZ hown (host := "") (Or.inl (own_w hw 42 rfl)) Via.refl e0 (F_w_BID_code_value.ext Z0) (g := (mkF m 1 #[.val (.ref w_BID_code)] [(.ref w_BID_code)])) rfl rfl (hb hby d_jdk_42_method_55_1)
  obtain ⟨fs, hr, hrun, hended, hW, hsame⟩ := X25.leave (v := some (.int (0 : Int32))) (fun h => by rw [hret] at h; cases h) hlk
  refine ⟨_, _, ?_, hrun, hended, _, _, rfl, ?_, ⟨_, rfl⟩, hW, hsame.mono (by decide) (by decide)⟩
  · show own_S p e below s₁ (mkF m 0 #[.val (.ref w_BID_code)] []) _
    refine XS.aloadN X0.here hx rfl (hb hby d_jdk_42_method_55_0) rfl rfl ?_
    show own_S p e below s₁ (mkF m 1 #[.val (.ref w_BID_code)] [(.ref w_BID_code)]) _
    refine st25 _ ?_
    show own_S p e below T25 (mkF m 4 #[.val (.ref w_BID_code)] [(.ref w_BID_code_value)]) _
    refine X25.arraylength hx (by rw [e25]; exact (Ar_w_BID_code_value.ext Z0).1) (State.isArrayOf_alike hZ.alike (Ar_w_BID_code_value.ext Z0).2.1) (g := (mkF m 4 #[.val (.ref w_BID_code)] [(.ref w_BID_code_value)])) rfl rfl (hb hby d_jdk_42_method_55_4) _ ?_
    rw [len_of Sz_w_BID_code_value (by decide)]
    show own_S p e below T25 (mkF m 5 #[.val (.ref w_BID_code)] [(.int (3 : Int32))]) _
    refine XS.ifYes X25.here hx rfl (pc0 := 5) (pc' := 12) rfl (hb hby d_jdk_42_method_55_5) rfl ((if0 _ _).trans (feq (by decide : ¬ ((3 : Int32) = (0 : Int32)))).2) (by decide) (by decide) ?_
    show own_S p e below T25 (mkF m 12 #[.val (.ref w_BID_code)] []) _
    refine XS.iconst X25.here hx rfl (hb hby d_jdk_42_method_55_12) ?_
    show own_S p e below T25 (mkF m 13 #[.val (.ref w_BID_code)] [(.int (0 : Int32))]) _
    exact retN X25 hx (t := .boolean) hret (by simp) (hb hby d_jdk_42_method_55_13) hr
  · show Qrm24 Z w_BID_code w_BID_code_value cl_w_BID_code_value h0 _ T25.heap _
    rw [e25]
    exact ⟨rfl, N0, rfl⟩
def Qrm28 (Z : State) (w_BID_code : Addr) (w_COMPACT_STRINGS : Int32) (h0 : Heap) (v : Option Value) (h : Heap) (L : List Loc) : Prop := v = some (.int (1 : Int32)) ∧ Fr Z.heap.size L ∧ h = h0
set_option maxRecDepth 65536 in
set_option maxHeartbeats 40000000 in
theorem rm28 (l : Launch) (Z : State) (a0 : Array Value) (hw : ∀ d ∈ tables_1, d.before a0 Z = true) (ws : List Jvm.Cond) (w_BID_code : Addr) (w_COMPACT_STRINGS : Int32) (h0 : Heap) (Z0 : Ext Z.heap h0) (S_w_COMPACT_STRINGS : Sta Z Z.heap "java/lang/String" "COMPACT_STRINGS" "Z" (.int w_COMPACT_STRINGS)) (F_w_BID_code_coder : Fld Z Z.heap w_BID_code "java/lang/String" "coder" "B" (.int (0 : Int32))) (hc1 : ¬ (w_COMPACT_STRINGS = (0 : Int32))) :
    own_met l y_4 jdk_42_method_154_code 1 (some .boolean) ws ({ frames := 0, cells := 0, slots := 0, locals := 0 } : Room) Z #[(.ref w_BID_code)] h0 (Qrm28 Z w_BID_code w_COMPACT_STRINGS h0) := by
  refine own_start (plainFor_of_name pn_1) (fun m => ef_jdk_42_method_154_R m w_BID_code) ?_
  intro p e s m below meth c s₁ hx hby hml hown hnm X0 hZ e0 hret hlk
  have N0 := Fr.nil Z.heap.size
  obtain ⟨T29, X29, e29, st29⟩ := getS2 X0 hx hZ hown (host := "") (Or.inl (own_w hw 54 rfl)) Via.refl e0 (S_w_COMPACT_STRINGS.ext Z0) (g := (mkF m 0 #[.val (.ref w_BID_code)] [])) rfl (hb hby d_jdk_42_method_154_0)
  obtain ⟨T30, X30, e30, st30⟩ := getF X29 hx hZ hown (host := "") (Or.inl (own_w hw 55 rfl)) Via.refl e29 (F_w_BID_code_coder.ext Z0) (g := (mkF m 7 #[.val (.ref w_BID_code)] [(.ref w_BID_code)])) rfl rfl (hb hby d_jdk_42_method_154_7)
  obtain ⟨fs, hr, hrun, hended, hW, hsame⟩ := X30.leave (v := some (.int (1 : Int32))) (fun h => by rw [hret] at h; cases h) hlk
  refine ⟨_, _, ?_, hrun, hended, _, _, rfl, ?_, ⟨_, rfl⟩, hW, hsame.mono (by decide) (by decide)⟩
  · show own_S p e below s₁ (mkF m 0 #[.val (.ref w_BID_code)] []) _
    refine st29 _ ?_
    show own_S p e below T29 (mkF m 3 #[.val (.ref w_BID_code)] [(.int w_COMPACT_STRINGS)]) _
    refine XS.ifNo X29.here hx rfl (hb hby d_jdk_42_method_154_3) rfl ((if0 _ _).trans (feq hc1).1) ?_
    show own_S p e below T29 (mkF m 6 #[.val (.ref w_BID_code)] []) _
    refine XS.aloadN X29.here hx rfl (hb hby d_jdk_42_method_154_6) rfl rfl ?_
    show own_S p e below T29 (mkF m 7 #[.val (.ref w_BID_code)] [(.ref w_BID_code)]) _
    refine st30 _ ?_
    show own_S p e below T30 (mkF m 10 #[.val (.ref w_BID_code)] [(.int (0 : Int32))]) _
    refine XS.ifNo X30.here hx rfl (hb hby d_jdk_42_method_154_10) rfl ((if0 _ _).trans (teq (rfl : (0 : Int32) = (0 : Int32))).2) ?_
    show own_S p e below T30 (mkF m 13 #[.val (.ref w_BID_code)] []) _
    refine XS.iconst X30.here hx rfl (hb hby d_jdk_42_method_154_13) ?_
    show own_S p e below T30 (mkF m 14 #[.val (.ref w_BID_code)] [(.int (1 : Int32))]) _
    refine XS.goto X30.here hx rfl (pc0 := 14) (pc' := 18) rfl (hb hby d_jdk_42_method_154_14) (by decide) (by decide) ?_
    show own_S p e below T30 (mkF m 18 #[.val (.ref w_BID_code)] [(.int (1 : Int32))]) _
    exact retN X30 hx (t := .boolean) hret (by simp) (hb hby d_jdk_42_method_154_18) hr
  · show Qrm28 Z w_BID_code w_COMPACT_STRINGS h0 _ T30.heap _
    rw [e30]
    exact ⟨rfl, N0, rfl⟩
def Qrm36 (Z : State) (w_SIOOBE_FORMATTER : Value) (h0 : Heap) (v : Option Value) (h : Heap) (L : List Loc) : Prop := v = some (.int (0 : Int32)) ∧ Fr Z.heap.size L ∧ h = h0
set_option maxRecDepth 65536 in
set_option maxHeartbeats 40000000 in
theorem rm36 (l : Launch) (Z : State) (a0 : Array Value) (hw : ∀ d ∈ tables_1, d.before a0 Z = true) (ws : List Jvm.Cond) (w_SIOOBE_FORMATTER : Value) (h0 : Heap) (Z0 : Ext Z.heap h0) (R_w_SIOOBE_FORMATTER : w_SIOOBE_FORMATTER.isRef = true) :
    own_met l y_5 jdk_41_method_11_code 3 (some .int) ws ({ frames := 0, cells := 0, slots := 0, locals := 0 } : Room) Z #[(.int (0 : Int32)), (.int (3 : Int32)), w_SIOOBE_FORMATTER] h0 (Qrm36 Z w_SIOOBE_FORMATTER h0) := by
  refine own_start (plainFor_of_name pn_2) (fun m => ef_jdk_41_method_11_IIX m (0 : Int32) (3 : Int32) w_SIOOBE_FORMATTER R_w_SIOOBE_FORMATTER) ?_
  intro p e s m below meth c s₁ hx hby hml hown hnm X0 hZ e0 hret hlk
  have N0 := Fr.nil Z.heap.size
  obtain ⟨fs, hr, hrun, hended, hW, hsame⟩ := X0.leave (v := some (.int (0 : Int32))) (fun h => by rw [hret] at h; cases h) hlk
  refine ⟨_, _, ?_, hrun, hended, _, _, rfl, ?_, ⟨_, rfl⟩, hW, hsame.mono (by decide) (by decide)⟩
  · show own_S p e below s₁ (mkF m 0 #[.val (.int (0 : Int32)), .val (.int (3 : Int32)), .val w_SIOOBE_FORMATTER] []) _
    refine XS.iloadN X0.here hx rfl (hb hby d_jdk_41_method_11_0) rfl ?_
    show own_S p e below s₁ (mkF m 1 #[.val (.int (0 : Int32)), .val (.int (3 : Int32)), .val w_SIOOBE_FORMATTER] [(.int (0 : Int32))]) _
    refine XS.ifNo X0.here hx rfl (hb hby d_jdk_41_method_11_1) rfl ((if0 _ _).trans (flt (Int32.lt_irrefl : ¬ ((0 : Int32) < (0 : Int32)))).1) ?_
    show own_S p e below s₁ (mkF m 4 #[.val (.int (0 : Int32)), .val (.int (3 : Int32)), .val w_SIOOBE_FORMATTER] []) _
    refine XS.iloadN X0.here hx rfl (hb hby d_jdk_41_method_11_4) rfl ?_
    show own_S p e below s₁ (mkF m 5 #[.val (.int (0 : Int32)), .val (.int (3 : Int32)), .val w_SIOOBE_FORMATTER] [(.int (0 : Int32))]) _
    refine XS.iloadN X0.here hx rfl (hb hby d_jdk_41_method_11_5) rfl ?_
    show own_S p e below s₁ (mkF m 6 #[.val (.int (0 : Int32)), .val (.int (3 : Int32)), .val w_SIOOBE_FORMATTER] [(.int (3 : Int32)), (.int (0 : Int32))]) _
    refine XS.icmpYes X0.here hx rfl (pc0 := 6) (pc' := 16) rfl (hb hby d_jdk_41_method_11_6) rfl (tlt (by decide : (0 : Int32) < (3 : Int32))).1 (by decide) (by decide) ?_
    show own_S p e below s₁ (mkF m 16 #[.val (.int (0 : Int32)), .val (.int (3 : Int32)), .val w_SIOOBE_FORMATTER] []) _
    refine XS.iloadN X0.here hx rfl (hb hby d_jdk_41_method_11_16) rfl ?_
    show own_S p e below s₁ (mkF m 17 #[.val (.int (0 : Int32)), .val (.int (3 : Int32)), .val w_SIOOBE_FORMATTER] [(.int (0 : Int32))]) _
    exact retI X0 hx hret (hb hby d_jdk_41_method_11_17) hr
  · show Qrm36 Z w_SIOOBE_FORMATTER h0 _ s₁.heap _
    rw [e0]
    exact ⟨rfl, N0, rfl⟩
def Qrm34 (Z : State) (w_SIOOBE_FORMATTER : Value) (h0 : Heap) (v : Option Value) (h : Heap) (L : List Loc) : Prop := v = none ∧ Fr Z.heap.size L ∧ h = h0
set_option maxRecDepth 65536 in
set_option maxHeartbeats 40000000 in
theorem rm34 (l : Launch) (Z : State) (a0 : Array Value) (hw : ∀ d ∈ tables_1, d.before a0 Z = true) (ws : List Jvm.Cond) (w_SIOOBE_FORMATTER : Value) (h0 : Heap) (Z0 : Ext Z.heap h0) (S_w_SIOOBE_FORMATTER : Sta Z Z.heap "jdk/internal/util/Preconditions" "SIOOBE_FORMATTER" "Ljava/util/function/BiFunction;" w_SIOOBE_FORMATTER) (R_w_SIOOBE_FORMATTER : w_SIOOBE_FORMATTER.isRef = true) :
    own_met l y_6 jdk_42_method_155_code 2 none ws ({ frames := 1, cells := 0, slots := 0, locals := 14 } : Room) Z #[(.int (0 : Int32)), (.int (3 : Int32))] h0 (Qrm34 Z w_SIOOBE_FORMATTER h0) := by
  refine own_start (plainFor_of_name pn_1) (fun m => ef_jdk_42_method_155_II m (0 : Int32) (3 : Int32)) ?_
  intro p e s m below meth c s₁ hx hby hml hown hnm X0 hZ e0 hret hlk
  have N0 := Fr.nil Z.heap.size
  obtain ⟨T35, X35, e35, st35⟩ := getS2 X0 hx hZ hown (host := "") (Or.inl (own_w hw 64 rfl)) Via.refl e0 (S_w_SIOOBE_FORMATTER.ext Z0) (g := (mkF m 2 #[.val (.int (0 : Int32)), .val (.int (3 : Int32))] [(.int (3 : Int32)), (.int (0 : Int32))])) rfl (hb hby d_jdk_42_method_155_2)
  obtain ⟨_, T37, Lc37, X37, hQ37, st37⟩ := own_static (y := y_5) X35 hx hZ hown (own_w hw 66 rfl) (own_w hw 67 rfl) (own_w hw 65 rfl) (own_w hw 68 rfl) (by decide) (rm36 l Z a0 hw [] w_SIOOBE_FORMATTER h0 Z0 R_w_SIOOBE_FORMATTER) (by decide) (by decide) e35 (g := (mkF m 5 #[.val (.int (0 : Int32)), .val (.int (3 : Int32))] [w_SIOOBE_FORMATTER, (.int (3 : Int32)), (.int (0 : Int32))])) rfl (by rw [hml]; rfl) (argsL := [(.int (0 : Int32)), (.int (3 : Int32)), w_SIOOBE_FORMATTER]) (rest := []) (lenOf pd_3 rfl) rfl rfl (W := 0) (by show 2 * 0 + _ ≤ _; exact Nat.le_of_eq rfl) (hb hby d_jdk_42_method_155_5) (by decide) (by decide)
  obtain ⟨rfl, N37q, e37⟩ := hQ37
  have N37 := Fr.app N0 N37q
  obtain ⟨fs, hr, hrun, hended, hW, hsame⟩ := X37.leave (v := none) (fun _ => rfl) hlk
  refine ⟨_, _, ?_, hrun, hended, _, _, rfl, ?_, ⟨_, rfl⟩, hW, hsame.mono (by decide) (by decide)⟩
  · show own_S p e below s₁ (mkF m 0 #[.val (.int (0 : Int32)), .val (.int (3 : Int32))] []) _
    refine XS.iloadN X0.here hx rfl (hb hby d_jdk_42_method_155_0) rfl ?_
    show own_S p e below s₁ (mkF m 1 #[.val (.int (0 : Int32)), .val (.int (3 : Int32))] [(.int (0 : Int32))]) _
    refine XS.iloadN X0.here hx rfl (hb hby d_jdk_42_method_155_1) rfl ?_
    show own_S p e below s₁ (mkF m 2 #[.val (.int (0 : Int32)), .val (.int (3 : Int32))] [(.int (3 : Int32)), (.int (0 : Int32))]) _
    refine st35 _ ?_
    show own_S p e below T35 (mkF m 5 #[.val (.int (0 : Int32)), .val (.int (3 : Int32))] [w_SIOOBE_FORMATTER, (.int (3 : Int32)), (.int (0 : Int32))]) _
    refine st37 _ ?_
    show own_S p e below T37 (mkF m 8 #[.val (.int (0 : Int32)), .val (.int (3 : Int32))] [(.int (0 : Int32))]) _
    refine XS.pop X37.here hx rfl (hb hby d_jdk_42_method_155_8) rfl rfl ?_
    show own_S p e below T37 (mkF m 9 #[.val (.int (0 : Int32)), .val (.int (3 : Int32))] []) _
    exact X37.returnOut hx hret (hb hby d_jdk_42_method_155_9) hr
  · show Qrm34 Z w_SIOOBE_FORMATTER h0 _ T37.heap _
    rw [e37]
    exact ⟨rfl, N37, rfl⟩
def Qrm33 (Z : State) (w_BID_code_value : Addr) (cl_w_BID_code_value : Cell) (w_SIOOBE_FORMATTER : Value) (h0 : Heap) (v : Option Value) (h : Heap) (L : List Loc) : Prop := v = some (.int (98 : Int32)) ∧ Fr Z.heap.size L ∧ h = h0
set_option maxRecDepth 65536 in
set_option maxHeartbeats 40000000 in
theorem rm33 (l : Launch) (Z : State) (a0 : Array Value) (hw : ∀ d ∈ tables_1, d.before a0 Z = true) (ws : List Jvm.Cond) (w_BID_code_value : Addr) (cl_w_BID_code_value : Cell) (w_SIOOBE_FORMATTER : Value) (h0 : Heap) (Z0 : Ext Z.heap h0) (Ar_w_BID_code_value : Arr Z Z.heap w_BID_code_value cl_w_BID_code_value .byte) (Sz_w_BID_code_value : cl_w_BID_code_value.slots.size = (3 : Int32).toNatClampNeg) (S_w_SIOOBE_FORMATTER : Sta Z Z.heap "jdk/internal/util/Preconditions" "SIOOBE_FORMATTER" "Ljava/util/function/BiFunction;" w_SIOOBE_FORMATTER) (R_w_SIOOBE_FORMATTER : w_SIOOBE_FORMATTER.isRef = true) (hin_w_BID_code_value_0 : ¬ ((0 : Int32) < 0 ∨ cl_w_BID_code_value.slots.size ≤ ((0 : Int32)).toNatClampNeg)) (hat_w_BID_code_value_0 : cl_w_BID_code_value.slots[((0 : Int32)).toNatClampNeg]? = some (.int (98 : Int32))) :
    own_met l y_7 jdk_43_method_2_code 2 (some .char) ws ({ frames := 2, cells := 0, slots := 0, locals := 27 } : Room) Z #[(.ref w_BID_code_value), (.int (0 : Int32))] h0 (Qrm33 Z w_BID_code_value cl_w_BID_code_value w_SIOOBE_FORMATTER h0) := by
  refine own_start (plainFor_of_name pn_3) (fun m => ef_jdk_43_method_2_RI m w_BID_code_value (0 : Int32)) ?_
  intro p e s m below meth c s₁ hx hby hml hown hnm X0 hZ e0 hret hlk
  have N0 := Fr.nil Z.heap.size
  obtain ⟨_, T38, Lc38, X38, hQ38, st38⟩ := own_static (y := y_6) X0 hx hZ hown (own_w hw 61 rfl) (own_w hw 62 rfl) (own_w hw 40 rfl) (own_w hw 63 rfl) (by decide) (rm34 l Z a0 hw [] w_SIOOBE_FORMATTER h0 Z0 S_w_SIOOBE_FORMATTER R_w_SIOOBE_FORMATTER) (by decide) (by decide) e0 (g := (mkF m 3 #[.val (.ref w_BID_code_value), .val (.int (0 : Int32))] [(.int (3 : Int32)), (.int (0 : Int32))])) rfl (by rw [hml]; rfl) (argsL := [(.int (0 : Int32)), (.int (3 : Int32))]) (rest := []) (lenOf pd_4 rfl) rfl rfl (W := 0) (by show 2 * 0 + _ ≤ _; exact Nat.le_of_eq rfl) (hb hby d_jdk_43_method_2_3) (by decide) (by decide)
  obtain ⟨rfl, N38q, e38⟩ := hQ38
  have N38 := Fr.app N0 N38q
  obtain ⟨fs, hr, hrun, hended, hW, hsame⟩ := X38.leave (v := some (.int (98 : Int32))) (fun h => by rw [hret] at h; cases h) hlk
  refine ⟨_, _, ?_, hrun, hended, _, _, rfl, ?_, ⟨_, rfl⟩, hW, hsame.mono (by decide) (by decide)⟩
  · show own_S p e below s₁ (mkF m 0 #[.val (.ref w_BID_code_value), .val (.int (0 : Int32))] []) _
    refine XS.iloadN X0.here hx rfl (hb hby d_jdk_43_method_2_0) rfl ?_
    show own_S p e below s₁ (mkF m 1 #[.val (.ref w_BID_code_value), .val (.int (0 : Int32))] [(.int (0 : Int32))]) _
    refine XS.aloadN X0.here hx rfl (hb hby d_jdk_43_method_2_1) rfl rfl ?_
    show own_S p e below s₁ (mkF m 2 #[.val (.ref w_BID_code_value), .val (.int (0 : Int32))] [(.ref w_BID_code_value), (.int (0 : Int32))]) _
    refine X0.arraylength hx (by rw [e0]; exact (Ar_w_BID_code_value.ext Z0).1) (State.isArrayOf_alike hZ.alike (Ar_w_BID_code_value.ext Z0).2.1) (g := (mkF m 2 #[.val (.ref w_BID_code_value), .val (.int (0 : Int32))] [(.ref w_BID_code_value), (.int (0 : Int32))])) rfl rfl (hb hby d_jdk_43_method_2_2) _ ?_
    rw [len_of Sz_w_BID_code_value (by decide)]
    show own_S p e below s₁ (mkF m 3 #[.val (.ref w_BID_code_value), .val (.int (0 : Int32))] [(.int (3 : Int32)), (.int (0 : Int32))]) _
    refine st38 _ ?_
    show own_S p e below T38 (mkF m 6 #[.val (.ref w_BID_code_value), .val (.int (0 : Int32))] []) _
    refine XS.aloadN X38.here hx rfl (hb hby d_jdk_43_method_2_6) rfl rfl ?_
    show own_S p e below T38 (mkF m 7 #[.val (.ref w_BID_code_value), .val (.int (0 : Int32))] [(.ref w_BID_code_value)]) _
    refine XS.iloadN X38.here hx rfl (hb hby d_jdk_43_method_2_7) rfl ?_
    show own_S p e below T38 (mkF m 8 #[.val (.ref w_BID_code_value), .val (.int (0 : Int32))] [(.int (0 : Int32)), (.ref w_BID_code_value)]) _
    refine X38.baloadBytes hx (j := (0 : Int32)) (v := (.int (98 : Int32))) (by rw [e38]; exact (Ar_w_BID_code_value.ext Z0).1) (State.isArrayOf_alike hZ.alike (Ar_w_BID_code_value.ext Z0).2.1) (Ar_w_BID_code_value.ext Z0).2.2 hin_w_BID_code_value_0 hat_w_BID_code_value_0 (g := (mkF m 8 #[.val (.ref w_BID_code_value), .val (.int (0 : Int32))] [(.int (0 : Int32)), (.ref w_BID_code_value)])) rfl rfl (hb hby d_jdk_43_method_2_8) _ ?_
    show own_S p e below T38 (mkF m 9 #[.val (.ref w_BID_code_value), .val (.int (0 : Int32))] [(.int (98 : Int32))]) _
    refine XS.sipush X38.here hx rfl (hb hby d_jdk_43_method_2_9) ?_
    show own_S p e below T38 (mkF m 12 #[.val (.ref w_BID_code_value), .val (.int (0 : Int32))] [(.int (255 : Int32)), (.int (98 : Int32))]) _
    refine XS.iand X38.here hx rfl (hb hby d_jdk_43_method_2_12) rfl ?_
    show own_S p e below T38 (mkF m 13 #[.val (.ref w_BID_code_value), .val (.int (0 : Int32))] [(.int ((98 : Int32) &&& (255 : Int32)))]) _
    rw [(by decide : ((98 : Int32) &&& (255 : Int32)) = (98 : Int32))]
    show own_S p e below T38 (mkF m 13 #[.val (.ref w_BID_code_value), .val (.int (0 : Int32))] [(.int (98 : Int32))]) _
    refine XS.i2c X38.here hx rfl (hb hby d_jdk_43_method_2_13) rfl ?_
    show own_S p e below T38 (mkF m 14 #[.val (.ref w_BID_code_value), .val (.int (0 : Int32))] [(.int ((98 : Int32).toUInt32.toUInt16.toUInt32.toInt32))]) _
    rw [(by decide : ((98 : Int32).toUInt32.toUInt16.toUInt32.toInt32) = (98 : Int32))]
    show own_S p e below T38 (mkF m 14 #[.val (.ref w_BID_code_value), .val (.int (0 : Int32))] [(.int (98 : Int32))]) _
    exact retN X38 hx (t := .char) hret (by simp) (hb hby d_jdk_43_method_2_14) hr
  · show Qrm33 Z w_BID_code_value cl_w_BID_code_value w_SIOOBE_FORMATTER h0 _ T38.heap _
    rw [e38]
    exact ⟨rfl, N38, rfl⟩
def Qrm27 (Z : State) (w_BID_code : Addr) (w_BID_code_value : Addr) (cl_w_BID_code_value : Cell) (w_COMPACT_STRINGS : Int32) (w_SIOOBE_FORMATTER : Value) (h0 : Heap) (v : Option Value) (h : Heap) (L : List Loc) : Prop := v = some (.int (98 : Int32)) ∧ Fr Z.heap.size L ∧ h = h0
set_option maxRecDepth 65536 in
set_option maxHeartbeats 40000000 in
theorem rm27 (l : Launch) (Z : State) (a0 : Array Value) (hw : ∀ d ∈ tables_1, d.before a0 Z = true) (ws : List Jvm.Cond) (w_BID_code : Addr) (w_BID_code_value : Addr) (cl_w_BID_code_value : Cell) (w_COMPACT_STRINGS : Int32) (w_SIOOBE_FORMATTER : Value) (h0 : Heap) (Z0 : Ext Z.heap h0) (E_w_BID_code : Exa Z Z.heap w_BID_code "java/lang/String") (S_w_COMPACT_STRINGS : Sta Z Z.heap "java/lang/String" "COMPACT_STRINGS" "Z" (.int w_COMPACT_STRINGS)) (F_w_BID_code_coder : Fld Z Z.heap w_BID_code "java/lang/String" "coder" "B" (.int (0 : Int32))) (F_w_BID_code_value : Fld Z Z.heap w_BID_code "java/lang/String" "value" "[B" (.ref w_BID_code_value)) (Ar_w_BID_code_value : Arr Z Z.heap w_BID_code_value cl_w_BID_code_value .byte) (Sz_w_BID_code_value : cl_w_BID_code_value.slots.size = (3 : Int32).toNatClampNeg) (S_w_SIOOBE_FORMATTER : Sta Z Z.heap "jdk/internal/util/Preconditions" "SIOOBE_FORMATTER" "Ljava/util/function/BiFunction;" w_SIOOBE_FORMATTER) (R_w_SIOOBE_FORMATTER : w_SIOOBE_FORMATTER.isRef = true) (hin_w_BID_code_value_0 : ¬ ((0 : Int32) < 0 ∨ cl_w_BID_code_value.slots.size ≤ ((0 : Int32)).toNatClampNeg)) (hat_w_BID_code_value_0 : cl_w_BID_code_value.slots[((0 : Int32)).toNatClampNeg]? = some (.int (98 : Int32))) (hc1 : ¬ (w_COMPACT_STRINGS = (0 : Int32))) :
    own_met l y_8 jdk_42_method_56_code 2 (some .char) ws ({ frames := 3, cells := 0, slots := 0, locals := 40 } : Room) Z #[(.ref w_BID_code), (.int (0 : Int32))] h0 (Qrm27 Z w_BID_code w_BID_code_value cl_w_BID_code_value w_COMPACT_STRINGS w_SIOOBE_FORMATTER h0) := by
  refine own_start (plainFor_of_name pn_1) (fun m => ef_jdk_42_method_56_RI m w_BID_code (0 : Int32)) ?_
  intro p e s m below meth c s₁ hx hby hml hown hnm X0 hZ e0 hret hlk
  have N0 := Fr.nil Z.heap.size
  obtain ⟨_, T31, Lc31, X31, hQ31, st31⟩ := own_virtual (y := y_4) X0 hx hZ hown (own_w hw 49 rfl) (own_w hw 50 rfl) (own_w hw 52 rfl) (own_w hw 51 rfl) (own_w hw 40 rfl) (own_w hw 53 rfl) (by decide) (rm28 l Z a0 hw [] w_BID_code w_COMPACT_STRINGS h0 Z0 S_w_COMPACT_STRINGS F_w_BID_code_coder hc1) (by decide) (by decide) e0 (E_w_BID_code.ext Z0) (g := (mkF m 1 #[.val (.ref w_BID_code), .val (.int (0 : Int32))] [(.ref w_BID_code)])) rfl (by rw [hml]; rfl) (argsL := []) (rest := []) (lenOf pd_0 rfl) rfl rfl (W := 0) (by show 2 * 0 + _ ≤ _; exact Nat.le_of_eq rfl) (hb hby d_jdk_42_method_56_1) (by decide) (by decide)
  obtain ⟨rfl, N31q, e31⟩ := hQ31
  have N31 := Fr.app N0 N31q
  obtain ⟨T32, X32, e32, st32⟩ := getF X31 hx hZ hown (host := "") (Or.inl (own_w hw 42 rfl)) Via.refl e31 (F_w_BID_code_value.ext Z0) (g := (mkF m 8 #[.val (.ref w_BID_code), .val (.int (0 : Int32))] [(.ref w_BID_code)])) rfl rfl (hb hby d_jdk_42_method_56_8)
  obtain ⟨_, T39, Lc39, X39, hQ39, st39⟩ := own_static (y := y_7) X32 hx hZ hown (own_w hw 57 rfl) (own_w hw 58 rfl) (own_w hw 59 rfl) (own_w hw 60 rfl) (by decide) (rm33 l Z a0 hw [] w_BID_code_value cl_w_BID_code_value w_SIOOBE_FORMATTER h0 Z0 Ar_w_BID_code_value Sz_w_BID_code_value S_w_SIOOBE_FORMATTER R_w_SIOOBE_FORMATTER hin_w_BID_code_value_0 hat_w_BID_code_value_0) (by decide) (by decide) e32 (g := (mkF m 12 #[.val (.ref w_BID_code), .val (.int (0 : Int32))] [(.int (0 : Int32)), (.ref w_BID_code_value)])) rfl (by rw [hml]; rfl) (argsL := [(.ref w_BID_code_value), (.int (0 : Int32))]) (rest := []) (lenOf pd_5 rfl) rfl rfl (W := 0) (by show 2 * 0 + _ ≤ _; exact Nat.le_of_eq rfl) (hb hby d_jdk_42_method_56_12) (by decide) (by decide)
  obtain ⟨rfl, N39q, e39⟩ := hQ39
  have N39 := Fr.app N31 N39q
  obtain ⟨fs, hr, hrun, hended, hW, hsame⟩ := X39.leave (v := some (.int (98 : Int32))) (fun h => by rw [hret] at h; cases h) hlk
  refine ⟨_, _, ?_, hrun, hended, _, _, rfl, ?_, ⟨_, rfl⟩, hW, hsame.mono (by decide) (by decide)⟩
  · show own_S p e below s₁ (mkF m 0 #[.val (.ref w_BID_code), .val (.int (0 : Int32))] []) _
    refine XS.aloadN X0.here hx rfl (hb hby d_jdk_42_method_56_0) rfl rfl ?_
    show own_S p e below s₁ (mkF m 1 #[.val (.ref w_BID_code), .val (.int (0 : Int32))] [(.ref w_BID_code)]) _
    refine st31 _ ?_
    show own_S p e below T31 (mkF m 4 #[.val (.ref w_BID_code), .val (.int (0 : Int32))] [(.int (1 : Int32))]) _
    refine XS.ifNo X31.here hx rfl (hb hby d_jdk_42_method_56_4) rfl ((if0 _ _).trans (feq (by decide : ¬ ((1 : Int32) = (0 : Int32)))).1) ?_
    show own_S p e below T31 (mkF m 7 #[.val (.ref w_BID_code), .val (.int (0 : Int32))] []) _
    refine XS.aloadN X31.here hx rfl (hb hby d_jdk_42_method_56_7) rfl rfl ?_
    show own_S p e below T31 (mkF m 8 #[.val (.ref w_BID_code), .val (.int (0 : Int32))] [(.ref w_BID_code)]) _
    refine st32 _ ?_
    show own_S p e below T32 (mkF m 11 #[.val (.ref w_BID_code), .val (.int (0 : Int32))] [(.ref w_BID_code_value)]) _
    refine XS.iloadN X32.here hx rfl (hb hby d_jdk_42_method_56_11) rfl ?_
    show own_S p e below T32 (mkF m 12 #[.val (.ref w_BID_code), .val (.int (0 : Int32))] [(.int (0 : Int32)), (.ref w_BID_code_value)]) _
    refine st39 _ ?_
    show own_S p e below T39 (mkF m 15 #[.val (.ref w_BID_code), .val (.int (0 : Int32))] [(.int (98 : Int32))]) _
    exact retN X39 hx (t := .char) hret (by simp) (hb hby d_jdk_42_method_56_15) hr
  · show Qrm27 Z w_BID_code w_BID_code_value cl_w_BID_code_value w_COMPACT_STRINGS w_SIOOBE_FORMATTER h0 _ T39.heap _
    rw [e39]
    exact ⟨rfl, N39, rfl⟩
def Qrm0_0 (Z : State) (w_BID : Addr) (w_PROPOSAL_POINTS : Addr) (w_PROPOSAL_WEIGHTS : Addr) (w_LOW_BIDDER : Addr) (w_IDENTICAL_LOW_BIDS : Addr) (w_BID_code : Addr) (w_BID_code_value : Addr) (cl_w_BID_code_value : Cell) (w_TOP_OFFEROR : Addr) (w_IDENTICAL_TOP_SCORES : Addr) (w_COMPACT_STRINGS : Int32) (w_SIOOBE_FORMATTER : Value) (p1 : Int32) (h0 : Heap) (v : Option Value) (h : Heap) (L : List Loc) : Prop := v = some (.int 1) ∧ Fr Z.heap.size L
set_option maxRecDepth 65536 in
set_option maxHeartbeats 40000000 in
theorem rm0_0 (l : Launch) (Z : State) (a0 : Array Value) (hw : ∀ d ∈ tables_1, d.before a0 Z = true) (ws : List Jvm.Cond) (w_BID : Addr) (w_PROPOSAL_POINTS : Addr) (w_PROPOSAL_WEIGHTS : Addr) (w_LOW_BIDDER : Addr) (w_IDENTICAL_LOW_BIDS : Addr) (w_BID_code : Addr) (w_BID_code_value : Addr) (cl_w_BID_code_value : Cell) (w_TOP_OFFEROR : Addr) (w_IDENTICAL_TOP_SCORES : Addr) (w_COMPACT_STRINGS : Int32) (w_SIOOBE_FORMATTER : Value) (p1 : Int32) (h0 : Heap) (Z0 : Ext Z.heap h0) (S_w_BID : Sta Z Z.heap "com/example/zia_tally/ziatally/evaluation/Method" "BID" "Lcom/example/zia_tally/ziatally/evaluation/Method;" (.ref w_BID)) (E_w_BID : Exa Z Z.heap w_BID "com/example/zia_tally/ziatally/evaluation/Method") (S_w_PROPOSAL_POINTS : Sta Z Z.heap "com/example/zia_tally/ziatally/evaluation/Method" "PROPOSAL_POINTS" "Lcom/example/zia_tally/ziatally/evaluation/Method;" (.ref w_PROPOSAL_POINTS)) (E_w_PROPOSAL_POINTS : Exa Z Z.heap w_PROPOSAL_POINTS "com/example/zia_tally/ziatally/evaluation/Method") (S_w_PROPOSAL_WEIGHTS : Sta Z Z.heap "com/example/zia_tally/ziatally/evaluation/Method" "PROPOSAL_WEIGHTS" "Lcom/example/zia_tally/ziatally/evaluation/Method;" (.ref w_PROPOSAL_WEIGHTS)) (E_w_PROPOSAL_WEIGHTS : Exa Z Z.heap w_PROPOSAL_WEIGHTS "com/example/zia_tally/ziatally/evaluation/Method") (F_w_BID_single : Fld Z Z.heap w_BID "com/example/zia_tally/ziatally/evaluation/Method" "single" "Lcom/example/zia_tally/ziatally/evaluation/Outcome;" (.ref w_LOW_BIDDER)) (F_w_BID_tied : Fld Z Z.heap w_BID "com/example/zia_tally/ziatally/evaluation/Method" "tied" "Lcom/example/zia_tally/ziatally/evaluation/Outcome;" (.ref w_IDENTICAL_LOW_BIDS)) (F_w_BID_code : Fld Z Z.heap w_BID "com/example/zia_tally/ziatally/evaluation/Method" "code" "Ljava/lang/String;" (.ref w_BID_code)) (E_w_BID_code : Exa Z Z.heap w_BID_code "java/lang/String") (F_w_BID_code_value : Fld Z Z.heap w_BID_code "java/lang/String" "value" "[B" (.ref w_BID_code_value)) (Ar_w_BID_code_value : Arr Z Z.heap w_BID_code_value cl_w_BID_code_value .byte) (Sz_w_BID_code_value : cl_w_BID_code_value.slots.size = (3 : Int32).toNatClampNeg) (S_w_COMPACT_STRINGS : Sta Z Z.heap "java/lang/String" "COMPACT_STRINGS" "Z" (.int w_COMPACT_STRINGS)) (F_w_BID_code_coder : Fld Z Z.heap w_BID_code "java/lang/String" "coder" "B" (.int (0 : Int32))) (S_w_SIOOBE_FORMATTER : Sta Z Z.heap "jdk/internal/util/Preconditions" "SIOOBE_FORMATTER" "Ljava/util/function/BiFunction;" w_SIOOBE_FORMATTER) (R_w_SIOOBE_FORMATTER : w_SIOOBE_FORMATTER.isRef = true) (hin_w_BID_code_value_0 : ¬ ((0 : Int32) < 0 ∨ cl_w_BID_code_value.slots.size ≤ ((0 : Int32)).toNatClampNeg)) (hat_w_BID_code_value_0 : cl_w_BID_code_value.slots[((0 : Int32)).toNatClampNeg]? = some (.int (98 : Int32))) (S_w_TOP_OFFEROR : Sta Z Z.heap "com/example/zia_tally/ziatally/evaluation/Outcome" "TOP_OFFEROR" "Lcom/example/zia_tally/ziatally/evaluation/Outcome;" (.ref w_TOP_OFFEROR)) (S_w_IDENTICAL_TOP_SCORES : Sta Z Z.heap "com/example/zia_tally/ziatally/evaluation/Outcome" "IDENTICAL_TOP_SCORES" "Lcom/example/zia_tally/ziatally/evaluation/Outcome;" (.ref w_IDENTICAL_TOP_SCORES)) (hc2 : ((p1 &&& (2147483647 : Int32)) % (3 : Int32)) = (0 : Int32)) (hc1 : ¬ (w_COMPACT_STRINGS = (0 : Int32))) (hc3 : ¬ (w_LOW_BIDDER = w_TOP_OFFEROR)) (hc4 : ¬ (w_IDENTICAL_LOW_BIDS = w_IDENTICAL_TOP_SCORES)) :
    own_met l x code maxLocals ret ws room_1 Z #[(.int p1)] h0 (Qrm0_0 Z w_BID w_PROPOSAL_POINTS w_PROPOSAL_WEIGHTS w_LOW_BIDDER w_IDENTICAL_LOW_BIDS w_BID_code w_BID_code_value cl_w_BID_code_value w_TOP_OFFEROR w_IDENTICAL_TOP_SCORES w_COMPACT_STRINGS w_SIOOBE_FORMATTER p1 h0) := by
  refine own_start (plainFor_of_name pn_4) (fun m => ef_code_I m p1) ?_
  intro p e s m below meth c s₁ hx hby hml hown hnm X0 hZ e0 hret hlk
  have N0 := Fr.nil Z.heap.size
  obtain ⟨T1, h1, k1, X1, e1, E1, A1, O1, st1⟩ := newR X0 hx hZ hown (own_w hw 0 rfl) (own_w hw 1 rfl) e0 (g := (mkF m 1 #[.val (.int p1), .unset, .unset, .unset, .unset, .unset, .unset, .unset, .unset, .unset, .unset, .unset] [(.int (3 : Int32))])) rfl (hb hby at_1) rfl (by decide) (cap := 3) (by decide) (by decide) (by decide) (by decide)
  obtain ⟨b1, g1⟩ : ∃ z, z = h0.size := ⟨_, rfl⟩
  rw [← g1] at A1 st1
  have g_b1 : Z.heap.size ≤ b1 := Nat.le_trans Z0.1 (Nat.le_of_eq g1.symm)
  have sz_b1 : h0.size ≤ b1 := Nat.le_trans (Keep.refl h0 []).1 (Nat.le_of_eq g1.symm)
  have V_b1 : Arv Z h1 b1 k1 (.object "com/example/zia_tally/ziatally/evaluation/Method") (3 : Int32) [.null, .null, .null] .null := (Arv.new A1 (by decide)).pad (pad_rep [] .null 3)
  have K1 : Keep h0 h1 [] := (Keep.refl h0 []).ext E1
  have XX1 : Ext Z.heap h1 := own_ext2 Z0 E1
  obtain ⟨T2, X2, e2, st2⟩ := getS2 X1 hx hZ hown (host := "") (Or.inl (own_w hw 2 rfl)) Via.refl e1 (S_w_BID.ext XX1) (g := (mkF m 6 #[.val (.int p1), .unset, .unset, .unset, .unset, .unset, .unset, .unset, .unset, .unset, .unset, .unset] [(.int (0 : Int32)), (.ref b1), (.ref b1)])) rfl (hb hby at_6)
  obtain ⟨cl3, Ar3, q3, S3, Nn3, H3, G3⟩ := V_b1
  have hin3 : ¬ ((0 : Int32) < 0 ∨ cl3.slots.size ≤ ((0 : Int32)).toNatClampNeg) := inb_of S3 ⟨by decide, by decide⟩
  obtain ⟨T4, h4, X4, e4, W4, st4⟩ := stR X2 hx hZ e2 Ar3 (j := (0 : Int32)) hin3 rfl (Sto.ofV Ar3 q3 O1 (Ins.self (E_w_BID.ext XX1))) (g := (mkF m 9 #[.val (.int p1), .unset, .unset, .unset, .unset, .unset, .unset, .unset, .unset, .unset, .unset, .unset] [(.ref w_BID), (.int (0 : Int32)), (.ref b1), (.ref b1)])) rfl rfl (hb hby at_9)
  have V4 : Arv Z h4 b1 k1 (.object "com/example/zia_tally/ziatally/evaluation/Method") (3 : Int32) [(.ref w_BID), .null, .null] .null := Arv.set Ar3 q3 S3 Nn3 H3 G3 rfl W4 0 rfl (Nat.le_of_ble_eq_true rfl)
  have K4 : Keep h0 h4 [] := K1.wr W4 (Or.inr sz_b1)
  have XX4 : Ext Z.heap h4 := own_extW XX1 W4 g_b1
  have N4 := Fr.snoc X4 N0 g_b1
  obtain ⟨T5, X5, e5, st5⟩ := getS2 X4 hx hZ hown (host := "") (Or.inl (own_w hw 6 rfl)) Via.refl e4 (S_w_PROPOSAL_POINTS.ext XX4) (g := (mkF m 12 #[.val (.int p1), .unset, .unset, .unset, .unset, .unset, .unset, .unset, .unset, .unset, .unset, .unset] [(.int (1 : Int32)), (.ref b1), (.ref b1)])) rfl (hb hby at_12)
  obtain ⟨cl6, Ar6, q6, S6, Nn6, H6, G6⟩ := V4
  have hin6 : ¬ ((1 : Int32) < 0 ∨ cl6.slots.size ≤ ((1 : Int32)).toNatClampNeg) := inb_of S6 ⟨by decide, by decide⟩
  obtain ⟨T7, h7, X7, e7, W7, st7⟩ := stR X5 hx hZ e5 Ar6 (j := (1 : Int32)) hin6 rfl (Sto.ofV Ar6 q6 O1 (Ins.self (E_w_PROPOSAL_POINTS.ext XX4))) (g := (mkF m 15 #[.val (.int p1), .unset, .unset, .unset, .unset, .unset, .unset, .unset, .unset, .unset, .unset, .unset] [(.ref w_PROPOSAL_POINTS), (.int (1 : Int32)), (.ref b1), (.ref b1)])) rfl rfl (hb hby at_15)
  have V7 : Arv Z h7 b1 k1 (.object "com/example/zia_tally/ziatally/evaluation/Method") (3 : Int32) [(.ref w_BID), (.ref w_PROPOSAL_POINTS), .null] .null := Arv.set Ar6 q6 S6 Nn6 H6 G6 rfl W7 1 rfl (Nat.le_of_ble_eq_true rfl)
  have K7 : Keep h0 h7 [] := K4.wr W7 (Or.inr sz_b1)
  have XX7 : Ext Z.heap h7 := own_extW XX4 W7 g_b1
  have N7 := Fr.snoc X7 N4 g_b1
  obtain ⟨T8, X8, e8, st8⟩ := getS2 X7 hx hZ hown (host := "") (Or.inl (own_w hw 8 rfl)) Via.refl e7 (S_w_PROPOSAL_WEIGHTS.ext XX7) (g := (mkF m 18 #[.val (.int p1), .unset, .unset, .unset, .unset, .unset, .unset, .unset, .unset, .unset, .unset, .unset] [(.int (2 : Int32)), (.ref b1), (.ref b1)])) rfl (hb hby at_18)
  obtain ⟨cl9, Ar9, q9, S9, Nn9, H9, G9⟩ := V7
  have hin9 : ¬ ((2 : Int32) < 0 ∨ cl9.slots.size ≤ ((2 : Int32)).toNatClampNeg) := inb_of S9 ⟨by decide, by decide⟩
  obtain ⟨T10, h10, X10, e10, W10, st10⟩ := stR X8 hx hZ e8 Ar9 (j := (2 : Int32)) hin9 rfl (Sto.ofV Ar9 q9 O1 (Ins.self (E_w_PROPOSAL_WEIGHTS.ext XX7))) (g := (mkF m 21 #[.val (.int p1), .unset, .unset, .unset, .unset, .unset, .unset, .unset, .unset, .unset, .unset, .unset] [(.ref w_PROPOSAL_WEIGHTS), (.int (2 : Int32)), (.ref b1), (.ref b1)])) rfl rfl (hb hby at_21)
  have V10 : Arv Z h10 b1 k1 (.object "com/example/zia_tally/ziatally/evaluation/Method") (3 : Int32) [(.ref w_BID), (.ref w_PROPOSAL_POINTS), (.ref w_PROPOSAL_WEIGHTS)] .null := Arv.set Ar9 q9 S9 Nn9 H9 G9 rfl W10 2 rfl (Nat.le_of_ble_eq_true rfl)
  have K10 : Keep h0 h10 [] := K7.wr W10 (Or.inr sz_b1)
  have XX10 : Ext Z.heap h10 := own_extW XX7 W10 g_b1
  have N10 := Fr.snoc X10 N7 g_b1
  obtain ⟨cl11, Ar11, q11, S11, Nn11, H11, G11⟩ := V10
  have hin11 : ¬ ((0 : Int32) < 0 ∨ cl11.slots.size ≤ ((0 : Int32)).toNatClampNeg) := inb_of S11 ⟨by decide, by decide⟩
  have hat11 : cl11.slots[((0 : Int32)).toNatClampNeg]? = some (.ref w_BID) := Has.at H11 hin11 rfl
  obtain ⟨_, T14, Lc14, X14, hQ14, st14⟩ := own_virtual (y := y_0) X10 hx hZ hown (own_w hw 11 rfl) (own_w hw 12 rfl) (own_w hw 14 rfl) (own_w hw 13 rfl) (own_w hw 3 rfl) (own_w hw 15 rfl) (by decide) (rm12 l Z a0 hw [] w_BID h10 XX10 S_w_BID) (by decide) (by decide) e10 (E_w_BID.ext XX10) (g := (mkF m 35 #[.val (.int p1), .val (.ref b1), .val (.int (0 : Int32)), .val (.ref w_BID), .unset, .unset, .unset, .unset, .unset, .unset, .unset, .unset] [(.ref w_BID)])) rfl (by rw [hml]; rfl) (argsL := []) (rest := []) (lenOf pd_0 rfl) rfl rfl (W := 0) (by show 2 * 0 + _ ≤ _; exact Nat.le_of_eq rfl) (hb hby at_35) (by decide) (by decide)
  obtain ⟨rfl, N14q, e14⟩ := hQ14
  have N14 := Fr.app N10 N14q
  obtain ⟨_, T17, Lc17, X17, hQ17, st17⟩ := own_virtual (y := y_1) X14 hx hZ hown (own_w hw 17 rfl) (own_w hw 18 rfl) (own_w hw 20 rfl) (own_w hw 19 rfl) (own_w hw 3 rfl) (own_w hw 21 rfl) (by decide) (rm15 l Z a0 hw [] w_BID w_LOW_BIDDER h10 XX10 F_w_BID_single) (by decide) (by decide) e14 (E_w_BID.ext XX10) (g := (mkF m 53 #[.val (.int p1), .val (.ref b1), .val (.int (0 : Int32)), .val (.ref w_BID), .val (.int (0 : Int32)), .val (.int (0 : Int32)), .unset, .unset, .unset, .unset, .unset, .unset] [(.int (0 : Int32)), (.ref w_BID)])) rfl (by rw [hml]; rfl) (argsL := [(.int (0 : Int32))]) (rest := []) (lenOf pd_1 rfl) rfl rfl (W := 0) (by show 2 * 0 + _ ≤ _; exact Nat.le_of_eq rfl) (hb hby at_53) (by decide) (by decide)
  obtain ⟨rfl, N17q, e17⟩ := hQ17
  have N17 := Fr.app N14 N17q
  obtain ⟨_, T20, Lc20, X20, hQ20, st20⟩ := own_virtual (y := y_1) X17 hx hZ hown (own_w hw 17 rfl) (own_w hw 18 rfl) (own_w hw 20 rfl) (own_w hw 19 rfl) (own_w hw 3 rfl) (own_w hw 21 rfl) (by decide) (rm18 l Z a0 hw [] w_BID w_IDENTICAL_LOW_BIDS h10 XX10 F_w_BID_tied) (by decide) (by decide) e17 (E_w_BID.ext XX10) (g := (mkF m 60 #[.val (.int p1), .val (.ref b1), .val (.int (0 : Int32)), .val (.ref w_BID), .val (.int (0 : Int32)), .val (.int (0 : Int32)), .val (.ref w_LOW_BIDDER), .unset, .unset, .unset, .unset, .unset] [(.int (1 : Int32)), (.ref w_BID)])) rfl (by rw [hml]; rfl) (argsL := [(.int (1 : Int32))]) (rest := []) (lenOf pd_1 rfl) rfl rfl (W := 0) (by show 2 * 0 + _ ≤ _; exact Nat.le_of_eq rfl) (hb hby at_60) (by decide) (by decide)
  obtain ⟨rfl, N20q, e20⟩ := hQ20
  have N20 := Fr.app N17 N20q
  obtain ⟨_, T23, Lc23, X23, hQ23, st23⟩ := own_virtual (y := y_2) X20 hx hZ hown (own_w hw 29 rfl) (own_w hw 30 rfl) (own_w hw 32 rfl) (own_w hw 31 rfl) (own_w hw 3 rfl) (own_w hw 33 rfl) (by decide) (rm21 l Z a0 hw [] w_BID w_BID_code h10 XX10 F_w_BID_code) (by decide) (by decide) e20 (E_w_BID.ext XX10) (g := (mkF m 66 #[.val (.int p1), .val (.ref b1), .val (.int (0 : Int32)), .val (.ref w_BID), .val (.int (0 : Int32)), .val (.int (0 : Int32)), .val (.ref w_LOW_BIDDER), .val (.ref w_IDENTICAL_LOW_BIDS), .unset, .unset, .unset, .unset] [(.ref w_BID)])) rfl (by rw [hml]; rfl) (argsL := []) (rest := []) (lenOf pd_2 rfl) rfl rfl (W := 0) (by show 2 * 0 + _ ≤ _; exact Nat.le_of_eq rfl) (hb hby at_66) (by decide) (by decide)
  obtain ⟨rfl, N23q, e23⟩ := hQ23
  have N23 := Fr.app N20 N23q
  obtain ⟨_, T26, Lc26, X26, hQ26, st26⟩ := own_virtual (y := y_3) X23 hx hZ hown (own_w hw 36 rfl) (own_w hw 37 rfl) (own_w hw 39 rfl) (own_w hw 38 rfl) (own_w hw 40 rfl) (own_w hw 41 rfl) (by decide) (rm24 l Z a0 hw [] w_BID_code w_BID_code_value cl_w_BID_code_value h10 XX10 F_w_BID_code_value Ar_w_BID_code_value Sz_w_BID_code_value) (by decide) (by decide) e23 (E_w_BID_code.ext XX10) (g := (mkF m 73 #[.val (.int p1), .val (.ref b1), .val (.int (0 : Int32)), .val (.ref w_BID), .val (.int (0 : Int32)), .val (.int (0 : Int32)), .val (.ref w_LOW_BIDDER), .val (.ref w_IDENTICAL_LOW_BIDS), .val (.ref w_BID_code), .unset, .unset, .unset] [(.ref w_BID_code)])) rfl (by rw [hml]; rfl) (argsL := []) (rest := []) (lenOf pd_0 rfl) rfl rfl (W := 0) (by show 2 * 0 + _ ≤ _; exact Nat.le_of_eq rfl) (hb hby at_73) (by decide) (by decide)
  obtain ⟨rfl, N26q, e26⟩ := hQ26
  have N26 := Fr.app N23 N26q
  obtain ⟨_, T40, Lc40, X40, hQ40, st40⟩ := own_virtual (y := y_8) X26 hx hZ hown (own_w hw 44 rfl) (own_w hw 45 rfl) (own_w hw 47 rfl) (own_w hw 46 rfl) (own_w hw 40 rfl) (own_w hw 48 rfl) (by decide) (rm27 l Z a0 hw [] w_BID_code w_BID_code_value cl_w_BID_code_value w_COMPACT_STRINGS w_SIOOBE_FORMATTER h10 XX10 E_w_BID_code S_w_COMPACT_STRINGS F_w_BID_code_coder F_w_BID_code_value Ar_w_BID_code_value Sz_w_BID_code_value S_w_SIOOBE_FORMATTER R_w_SIOOBE_FORMATTER hin_w_BID_code_value_0 hat_w_BID_code_value_0 hc1) (by decide) (by decide) e26 (E_w_BID_code.ext XX10) (g := (mkF m 82 #[.val (.int p1), .val (.ref b1), .val (.int (0 : Int32)), .val (.ref w_BID), .val (.int (0 : Int32)), .val (.int (0 : Int32)), .val (.ref w_LOW_BIDDER), .val (.ref w_IDENTICAL_LOW_BIDS), .val (.ref w_BID_code), .unset, .unset, .unset] [(.int (0 : Int32)), (.ref w_BID_code)])) rfl (by rw [hml]; rfl) (argsL := [(.int (0 : Int32))]) (rest := []) (lenOf pd_6 rfl) rfl rfl (W := 0) (by show 2 * 0 + _ ≤ _; exact Nat.le_of_eq rfl) (hb hby at_82) (by decide) (by decide)
  obtain ⟨rfl, N40q, e40⟩ := hQ40
  have N40 := Fr.app N26 N40q
  obtain ⟨T41, X41, e41, st41⟩ := getS2 X40 hx hZ hown (host := "") (Or.inl (own_w hw 69 rfl)) Via.refl e40 (S_w_TOP_OFFEROR.ext XX10) (g := (mkF m 99 #[.val (.int p1), .val (.ref b1), .val (.int (0 : Int32)), .val (.ref w_BID), .val (.int (0 : Int32)), .val (.int (0 : Int32)), .val (.ref w_LOW_BIDDER), .val (.ref w_IDENTICAL_LOW_BIDS), .val (.ref w_BID_code), .val (.int (0 : Int32)), .unset, .unset] [(.ref w_LOW_BIDDER)])) rfl (hb hby at_99)
  obtain ⟨T42, X42, e42, st42⟩ := getS2 X41 hx hZ hown (host := "") (Or.inl (own_w hw 71 rfl)) Via.refl e41 (S_w_IDENTICAL_TOP_SCORES.ext XX10) (g := (mkF m 114 #[.val (.int p1), .val (.ref b1), .val (.int (0 : Int32)), .val (.ref w_BID), .val (.int (0 : Int32)), .val (.int (0 : Int32)), .val (.ref w_LOW_BIDDER), .val (.ref w_IDENTICAL_LOW_BIDS), .val (.ref w_BID_code), .val (.int (0 : Int32)), .val (.int (0 : Int32)), .unset] [(.ref w_IDENTICAL_LOW_BIDS)])) rfl (hb hby at_114)
  obtain ⟨fs, hr, hrun, hended, hW, hsame⟩ := X42.leave (v := some (.int (1 : Int32))) (fun h => by rw [hret] at h; cases h) hlk
  refine ⟨_, _, ?_, hrun, hended, _, _, rfl, ?_, ⟨_, rfl⟩, hW, hsame.mono (by decide) (by decide)⟩
  · show own_S p e below s₁ (mkF m 0 #[.val (.int p1), .unset, .unset, .unset, .unset, .unset, .unset, .unset, .unset, .unset, .unset, .unset] []) _
    refine XS.iconst X0.here hx rfl (hb hby at_0) ?_
    show own_S p e below s₁ (mkF m 1 #[.val (.int p1), .unset, .unset, .unset, .unset, .unset, .unset, .unset, .unset, .unset, .unset, .unset] [(.int (3 : Int32))]) _
    refine st1 _ ?_
    show own_S p e below T1 (mkF m 4 #[.val (.int p1), .unset, .unset, .unset, .unset, .unset, .unset, .unset, .unset, .unset, .unset, .unset] [(.ref b1)]) _
    refine XS.dup X1.here hx rfl (hb hby at_4) rfl rfl ?_
    show own_S p e below T1 (mkF m 5 #[.val (.int p1), .unset, .unset, .unset, .unset, .unset, .unset, .unset, .unset, .unset, .unset, .unset] [(.ref b1), (.ref b1)]) _
    refine XS.iconst X1.here hx rfl (hb hby at_5) ?_
    show own_S p e below T1 (mkF m 6 #[.val (.int p1), .unset, .unset, .unset, .unset, .unset, .unset, .unset, .unset, .unset, .unset, .unset] [(.int (0 : Int32)), (.ref b1), (.ref b1)]) _
    refine st2 _ ?_
    show own_S p e below T2 (mkF m 9 #[.val (.int p1), .unset, .unset, .unset, .unset, .unset, .unset, .unset, .unset, .unset, .unset, .unset] [(.ref w_BID), (.int (0 : Int32)), (.ref b1), (.ref b1)]) _
    refine st4 _ ?_
    show own_S p e below T4 (mkF m 10 #[.val (.int p1), .unset, .unset, .unset, .unset, .unset, .unset, .unset, .unset, .unset, .unset, .unset] [(.ref b1)]) _
    refine XS.dup X4.here hx rfl (hb hby at_10) rfl rfl ?_
    show own_S p e below T4 (mkF m 11 #[.val (.int p1), .unset, .unset, .unset, .unset, .unset, .unset, .unset, .unset, .unset, .unset, .unset] [(.ref b1), (.ref b1)]) _
    refine XS.iconst X4.here hx rfl (hb hby at_11) ?_
    show own_S p e below T4 (mkF m 12 #[.val (.int p1), .unset, .unset, .unset, .unset, .unset, .unset, .unset, .unset, .unset, .unset, .unset] [(.int (1 : Int32)), (.ref b1), (.ref b1)]) _
    refine st5 _ ?_
    show own_S p e below T5 (mkF m 15 #[.val (.int p1), .unset, .unset, .unset, .unset, .unset, .unset, .unset, .unset, .unset, .unset, .unset] [(.ref w_PROPOSAL_POINTS), (.int (1 : Int32)), (.ref b1), (.ref b1)]) _
    refine st7 _ ?_
    show own_S p e below T7 (mkF m 16 #[.val (.int p1), .unset, .unset, .unset, .unset, .unset, .unset, .unset, .unset, .unset, .unset, .unset] [(.ref b1)]) _
    refine XS.dup X7.here hx rfl (hb hby at_16) rfl rfl ?_
    show own_S p e below T7 (mkF m 17 #[.val (.int p1), .unset, .unset, .unset, .unset, .unset, .unset, .unset, .unset, .unset, .unset, .unset] [(.ref b1), (.ref b1)]) _
    refine XS.iconst X7.here hx rfl (hb hby at_17) ?_
    show own_S p e below T7 (mkF m 18 #[.val (.int p1), .unset, .unset, .unset, .unset, .unset, .unset, .unset, .unset, .unset, .unset, .unset] [(.int (2 : Int32)), (.ref b1), (.ref b1)]) _
    refine st8 _ ?_
    show own_S p e below T8 (mkF m 21 #[.val (.int p1), .unset, .unset, .unset, .unset, .unset, .unset, .unset, .unset, .unset, .unset, .unset] [(.ref w_PROPOSAL_WEIGHTS), (.int (2 : Int32)), (.ref b1), (.ref b1)]) _
    refine st10 _ ?_
    show own_S p e below T10 (mkF m 22 #[.val (.int p1), .unset, .unset, .unset, .unset, .unset, .unset, .unset, .unset, .unset, .unset, .unset] [(.ref b1)]) _
    refine XS.astoreN X10.here hx rfl (hb hby at_22) rfl rfl (l' := #[.val (.int p1), .val (.ref b1), .unset, .unset, .unset, .unset, .unset, .unset, .unset, .unset, .unset, .unset]) rfl ?_
    show own_S p e below T10 (mkF m 23 #[.val (.int p1), .val (.ref b1), .unset, .unset, .unset, .unset, .unset, .unset, .unset, .unset, .unset, .unset] []) _
    refine XS.iloadN X10.here hx rfl (hb hby at_23) rfl ?_
    show own_S p e below T10 (mkF m 24 #[.val (.int p1), .val (.ref b1), .unset, .unset, .unset, .unset, .unset, .unset, .unset, .unset, .unset, .unset] [(.int p1)]) _
    refine X10.ldcInt hx hown (mvT hZ (own_w hw 10 rfl)) (g := (mkF m 24 #[.val (.int p1), .val (.ref b1), .unset, .unset, .unset, .unset, .unset, .unset, .unset, .unset, .unset, .unset] [(.int p1)])) rfl (hb hby at_24) _ ?_
    show own_S p e below T10 (mkF m 26 #[.val (.int p1), .val (.ref b1), .unset, .unset, .unset, .unset, .unset, .unset, .unset, .unset, .unset, .unset] [(.int (2147483647 : Int32)), (.int p1)]) _
    refine XS.iand X10.here hx rfl (hb hby at_26) rfl ?_
    show own_S p e below T10 (mkF m 27 #[.val (.int p1), .val (.ref b1), .unset, .unset, .unset, .unset, .unset, .unset, .unset, .unset, .unset, .unset] [(.int (p1 &&& (2147483647 : Int32)))]) _
    refine XS.iconst X10.here hx rfl (hb hby at_27) ?_
    show own_S p e below T10 (mkF m 28 #[.val (.int p1), .val (.ref b1), .unset, .unset, .unset, .unset, .unset, .unset, .unset, .unset, .unset, .unset] [(.int (3 : Int32)), (.int (p1 &&& (2147483647 : Int32)))]) _
    refine iremM X10 hx rfl (hb hby at_28) rfl (by decide) ?_
    show own_S p e below T10 (mkF m 29 #[.val (.int p1), .val (.ref b1), .unset, .unset, .unset, .unset, .unset, .unset, .unset, .unset, .unset, .unset] [(.int ((p1 &&& (2147483647 : Int32)) % (3 : Int32)))]) _
    rw [hc2]
    show own_S p e below T10 (mkF m 29 #[.val (.int p1), .val (.ref b1), .unset, .unset, .unset, .unset, .unset, .unset, .unset, .unset, .unset, .unset] [(.int (0 : Int32))]) _
    refine XS.istoreN X10.here hx rfl (hb hby at_29) rfl (l' := #[.val (.int p1), .val (.ref b1), .val (.int (0 : Int32)), .unset, .unset, .unset, .unset, .unset, .unset, .unset, .unset, .unset]) rfl ?_
    show own_S p e below T10 (mkF m 30 #[.val (.int p1), .val (.ref b1), .val (.int (0 : Int32)), .unset, .unset, .unset, .unset, .unset, .unset, .unset, .unset, .unset] []) _
    refine XS.aloadN X10.here hx rfl (hb hby at_30) rfl rfl ?_
    show own_S p e below T10 (mkF m 31 #[.val (.int p1), .val (.ref b1), .val (.int (0 : Int32)), .unset, .unset, .unset, .unset, .unset, .unset, .unset, .unset, .unset] [(.ref b1)]) _
    refine XS.iloadN X10.here hx rfl (hb hby at_31) rfl ?_
    show own_S p e below T10 (mkF m 32 #[.val (.int p1), .val (.ref b1), .val (.int (0 : Int32)), .unset, .unset, .unset, .unset, .unset, .unset, .unset, .unset, .unset] [(.int (0 : Int32)), (.ref b1)]) _
    refine X10.aaload hx (j := (0 : Int32)) (v := (.ref w_BID)) (by rw [e10]; exact Ar11.1) (State.isArrayOf_alike hZ.alike Ar11.2.1) rfl Ar11.2.2 hin11 hat11 (g := (mkF m 32 #[.val (.int p1), .val (.ref b1), .val (.int (0 : Int32)), .unset, .unset, .unset, .unset, .unset, .unset, .unset, .unset, .unset] [(.int (0 : Int32)), (.ref b1)])) rfl rfl (hb hby at_32) _ ?_
    show own_S p e below T10 (mkF m 33 #[.val (.int p1), .val (.ref b1), .val (.int (0 : Int32)), .unset, .unset, .unset, .unset, .unset, .unset, .unset, .unset, .unset] [(.ref w_BID)]) _
    refine XS.astoreN X10.here hx rfl (hb hby at_33) rfl rfl (l' := #[.val (.int p1), .val (.ref b1), .val (.int (0 : Int32)), .val (.ref w_BID), .unset, .unset, .unset, .unset, .unset, .unset, .unset, .unset]) rfl ?_
    show own_S p e below T10 (mkF m 34 #[.val (.int p1), .val (.ref b1), .val (.int (0 : Int32)), .val (.ref w_BID), .unset, .unset, .unset, .unset, .unset, .unset, .unset, .unset] []) _
    refine XS.aloadN X10.here hx rfl (hb hby at_34) rfl rfl ?_
    show own_S p e below T10 (mkF m 35 #[.val (.int p1), .val (.ref b1), .val (.int (0 : Int32)), .val (.ref w_BID), .unset, .unset, .unset, .unset, .unset, .unset, .unset, .unset] [(.ref w_BID)]) _
    refine st14 _ ?_
    show own_S p e below T14 (mkF m 38 #[.val (.int p1), .val (.ref b1), .val (.int (0 : Int32)), .val (.ref w_BID), .unset, .unset, .unset, .unset, .unset, .unset, .unset, .unset] [(.int (0 : Int32))]) _
    refine XS.istore X14.here hx rfl (hb hby at_38) rfl (l' := #[.val (.int p1), .val (.ref b1), .val (.int (0 : Int32)), .val (.ref w_BID), .val (.int (0 : Int32)), .unset, .unset, .unset, .unset, .unset, .unset, .unset]) rfl ?_
    show own_S p e below T14 (mkF m 40 #[.val (.int p1), .val (.ref b1), .val (.int (0 : Int32)), .val (.ref w_BID), .val (.int (0 : Int32)), .unset, .unset, .unset, .unset, .unset, .unset, .unset] []) _
    refine XS.iloadN X14.here hx rfl (hb hby at_40) rfl ?_
    show own_S p e below T14 (mkF m 41 #[.val (.int p1), .val (.ref b1), .val (.int (0 : Int32)), .val (.ref w_BID), .val (.int (0 : Int32)), .unset, .unset, .unset, .unset, .unset, .unset, .unset] [(.int (0 : Int32))]) _
    refine XS.ifYes X14.here hx rfl (pc0 := 41) (pc' := 48) rfl (hb hby at_41) rfl ((if0 _ _).trans (teq (rfl : (0 : Int32) = (0 : Int32))).1) (by decide) (by decide) ?_
    show own_S p e below T14 (mkF m 48 #[.val (.int p1), .val (.ref b1), .val (.int (0 : Int32)), .val (.ref w_BID), .val (.int (0 : Int32)), .unset, .unset, .unset, .unset, .unset, .unset, .unset] []) _
    refine XS.iconst X14.here hx rfl (hb hby at_48) ?_
    show own_S p e below T14 (mkF m 49 #[.val (.int p1), .val (.ref b1), .val (.int (0 : Int32)), .val (.ref w_BID), .val (.int (0 : Int32)), .unset, .unset, .unset, .unset, .unset, .unset, .unset] [(.int (0 : Int32))]) _
    refine XS.istore X14.here hx rfl (hb hby at_49) rfl (l' := #[.val (.int p1), .val (.ref b1), .val (.int (0 : Int32)), .val (.ref w_BID), .val (.int (0 : Int32)), .val (.int (0 : Int32)), .unset, .unset, .unset, .unset, .unset, .unset]) rfl ?_
    show own_S p e below T14 (mkF m 51 #[.val (.int p1), .val (.ref b1), .val (.int (0 : Int32)), .val (.ref w_BID), .val (.int (0 : Int32)), .val (.int (0 : Int32)), .unset, .unset, .unset, .unset, .unset, .unset] []) _
    refine XS.aloadN X14.here hx rfl (hb hby at_51) rfl rfl ?_
    show own_S p e below T14 (mkF m 52 #[.val (.int p1), .val (.ref b1), .val (.int (0 : Int32)), .val (.ref w_BID), .val (.int (0 : Int32)), .val (.int (0 : Int32)), .unset, .unset, .unset, .unset, .unset, .unset] [(.ref w_BID)]) _
    refine XS.iconst X14.here hx rfl (hb hby at_52) ?_
    show own_S p e below T14 (mkF m 53 #[.val (.int p1), .val (.ref b1), .val (.int (0 : Int32)), .val (.ref w_BID), .val (.int (0 : Int32)), .val (.int (0 : Int32)), .unset, .unset, .unset, .unset, .unset, .unset] [(.int (0 : Int32)), (.ref w_BID)]) _
    refine st17 _ ?_
    show own_S p e below T17 (mkF m 56 #[.val (.int p1), .val (.ref b1), .val (.int (0 : Int32)), .val (.ref w_BID), .val (.int (0 : Int32)), .val (.int (0 : Int32)), .unset, .unset, .unset, .unset, .unset, .unset] [(.ref w_LOW_BIDDER)]) _
    refine XS.astore X17.here hx rfl (hb hby at_56) rfl rfl (l' := #[.val (.int p1), .val (.ref b1), .val (.int (0 : Int32)), .val (.ref w_BID), .val (.int (0 : Int32)), .val (.int (0 : Int32)), .val (.ref w_LOW_BIDDER), .unset, .unset, .unset, .unset, .unset]) rfl ?_
    show own_S p e below T17 (mkF m 58 #[.val (.int p1), .val (.ref b1), .val (.int (0 : Int32)), .val (.ref w_BID), .val (.int (0 : Int32)), .val (.int (0 : Int32)), .val (.ref w_LOW_BIDDER), .unset, .unset, .unset, .unset, .unset] []) _
    refine XS.aloadN X17.here hx rfl (hb hby at_58) rfl rfl ?_
    show own_S p e below T17 (mkF m 59 #[.val (.int p1), .val (.ref b1), .val (.int (0 : Int32)), .val (.ref w_BID), .val (.int (0 : Int32)), .val (.int (0 : Int32)), .val (.ref w_LOW_BIDDER), .unset, .unset, .unset, .unset, .unset] [(.ref w_BID)]) _
    refine XS.iconst X17.here hx rfl (hb hby at_59) ?_
    show own_S p e below T17 (mkF m 60 #[.val (.int p1), .val (.ref b1), .val (.int (0 : Int32)), .val (.ref w_BID), .val (.int (0 : Int32)), .val (.int (0 : Int32)), .val (.ref w_LOW_BIDDER), .unset, .unset, .unset, .unset, .unset] [(.int (1 : Int32)), (.ref w_BID)]) _
    refine st20 _ ?_
    show own_S p e below T20 (mkF m 63 #[.val (.int p1), .val (.ref b1), .val (.int (0 : Int32)), .val (.ref w_BID), .val (.int (0 : Int32)), .val (.int (0 : Int32)), .val (.ref w_LOW_BIDDER), .unset, .unset, .unset, .unset, .unset] [(.ref w_IDENTICAL_LOW_BIDS)]) _
    refine XS.astore X20.here hx rfl (hb hby at_63) rfl rfl (l' := #[.val (.int p1), .val (.ref b1), .val (.int (0 : Int32)), .val (.ref w_BID), .val (.int (0 : Int32)), .val (.int (0 : Int32)), .val (.ref w_LOW_BIDDER), .val (.ref w_IDENTICAL_LOW_BIDS), .unset, .unset, .unset, .unset]) rfl ?_
    show own_S p e below T20 (mkF m 65 #[.val (.int p1), .val (.ref b1), .val (.int (0 : Int32)), .val (.ref w_BID), .val (.int (0 : Int32)), .val (.int (0 : Int32)), .val (.ref w_LOW_BIDDER), .val (.ref w_IDENTICAL_LOW_BIDS), .unset, .unset, .unset, .unset] []) _
    refine XS.aloadN X20.here hx rfl (hb hby at_65) rfl rfl ?_
    show own_S p e below T20 (mkF m 66 #[.val (.int p1), .val (.ref b1), .val (.int (0 : Int32)), .val (.ref w_BID), .val (.int (0 : Int32)), .val (.int (0 : Int32)), .val (.ref w_LOW_BIDDER), .val (.ref w_IDENTICAL_LOW_BIDS), .unset, .unset, .unset, .unset] [(.ref w_BID)]) _
    refine st23 _ ?_
    show own_S p e below T23 (mkF m 69 #[.val (.int p1), .val (.ref b1), .val (.int (0 : Int32)), .val (.ref w_BID), .val (.int (0 : Int32)), .val (.int (0 : Int32)), .val (.ref w_LOW_BIDDER), .val (.ref w_IDENTICAL_LOW_BIDS), .unset, .unset, .unset, .unset] [(.ref w_BID_code)]) _
    refine XS.astore X23.here hx rfl (hb hby at_69) rfl rfl (l' := #[.val (.int p1), .val (.ref b1), .val (.int (0 : Int32)), .val (.ref w_BID), .val (.int (0 : Int32)), .val (.int (0 : Int32)), .val (.ref w_LOW_BIDDER), .val (.ref w_IDENTICAL_LOW_BIDS), .val (.ref w_BID_code), .unset, .unset, .unset]) rfl ?_
    show own_S p e below T23 (mkF m 71 #[.val (.int p1), .val (.ref b1), .val (.int (0 : Int32)), .val (.ref w_BID), .val (.int (0 : Int32)), .val (.int (0 : Int32)), .val (.ref w_LOW_BIDDER), .val (.ref w_IDENTICAL_LOW_BIDS), .val (.ref w_BID_code), .unset, .unset, .unset] []) _
    refine XS.aload X23.here hx rfl (hb hby at_71) rfl rfl ?_
    show own_S p e below T23 (mkF m 73 #[.val (.int p1), .val (.ref b1), .val (.int (0 : Int32)), .val (.ref w_BID), .val (.int (0 : Int32)), .val (.int (0 : Int32)), .val (.ref w_LOW_BIDDER), .val (.ref w_IDENTICAL_LOW_BIDS), .val (.ref w_BID_code), .unset, .unset, .unset] [(.ref w_BID_code)]) _
    refine st26 _ ?_
    show own_S p e below T26 (mkF m 76 #[.val (.int p1), .val (.ref b1), .val (.int (0 : Int32)), .val (.ref w_BID), .val (.int (0 : Int32)), .val (.int (0 : Int32)), .val (.ref w_LOW_BIDDER), .val (.ref w_IDENTICAL_LOW_BIDS), .val (.ref w_BID_code), .unset, .unset, .unset] [(.int (0 : Int32))]) _
    refine XS.ifNo X26.here hx rfl (hb hby at_76) rfl ((if0 _ _).trans (teq (rfl : (0 : Int32) = (0 : Int32))).2) ?_
    show own_S p e below T26 (mkF m 79 #[.val (.int p1), .val (.ref b1), .val (.int (0 : Int32)), .val (.ref w_BID), .val (.int (0 : Int32)), .val (.int (0 : Int32)), .val (.ref w_LOW_BIDDER), .val (.ref w_IDENTICAL_LOW_BIDS), .val (.ref w_BID_code), .unset, .unset, .unset] []) _
    refine XS.aload X26.here hx rfl (hb hby at_79) rfl rfl ?_
    show own_S p e below T26 (mkF m 81 #[.val (.int p1), .val (.ref b1), .val (.int (0 : Int32)), .val (.ref w_BID), .val (.int (0 : Int32)), .val (.int (0 : Int32)), .val (.ref w_LOW_BIDDER), .val (.ref w_IDENTICAL_LOW_BIDS), .val (.ref w_BID_code), .unset, .unset, .unset] [(.ref w_BID_code)]) _
    refine XS.iconst X26.here hx rfl (hb hby at_81) ?_
    show own_S p e below T26 (mkF m 82 #[.val (.int p1), .val (.ref b1), .val (.int (0 : Int32)), .val (.ref w_BID), .val (.int (0 : Int32)), .val (.int (0 : Int32)), .val (.ref w_LOW_BIDDER), .val (.ref w_IDENTICAL_LOW_BIDS), .val (.ref w_BID_code), .unset, .unset, .unset] [(.int (0 : Int32)), (.ref w_BID_code)]) _
    refine st40 _ ?_
    show own_S p e below T40 (mkF m 85 #[.val (.int p1), .val (.ref b1), .val (.int (0 : Int32)), .val (.ref w_BID), .val (.int (0 : Int32)), .val (.int (0 : Int32)), .val (.ref w_LOW_BIDDER), .val (.ref w_IDENTICAL_LOW_BIDS), .val (.ref w_BID_code), .unset, .unset, .unset] [(.int (98 : Int32))]) _
    refine XS.bipush X40.here hx rfl (hb hby at_85) ?_
    show own_S p e below T40 (mkF m 87 #[.val (.int p1), .val (.ref b1), .val (.int (0 : Int32)), .val (.ref w_BID), .val (.int (0 : Int32)), .val (.int (0 : Int32)), .val (.ref w_LOW_BIDDER), .val (.ref w_IDENTICAL_LOW_BIDS), .val (.ref w_BID_code), .unset, .unset, .unset] [(.int (112 : Int32)), (.int (98 : Int32))]) _
    refine XS.icmpYes X40.here hx rfl (pc0 := 87) (pc' := 94) rfl (hb hby at_87) rfl (feq (by decide : ¬ ((98 : Int32) = (112 : Int32)))).2 (by decide) (by decide) ?_
    show own_S p e below T40 (mkF m 94 #[.val (.int p1), .val (.ref b1), .val (.int (0 : Int32)), .val (.ref w_BID), .val (.int (0 : Int32)), .val (.int (0 : Int32)), .val (.ref w_LOW_BIDDER), .val (.ref w_IDENTICAL_LOW_BIDS), .val (.ref w_BID_code), .unset, .unset, .unset] []) _
    refine XS.iconst X40.here hx rfl (hb hby at_94) ?_
    show own_S p e below T40 (mkF m 95 #[.val (.int p1), .val (.ref b1), .val (.int (0 : Int32)), .val (.ref w_BID), .val (.int (0 : Int32)), .val (.int (0 : Int32)), .val (.ref w_LOW_BIDDER), .val (.ref w_IDENTICAL_LOW_BIDS), .val (.ref w_BID_code), .unset, .unset, .unset] [(.int (0 : Int32))]) _
    refine XS.istore X40.here hx rfl (hb hby at_95) rfl (l' := #[.val (.int p1), .val (.ref b1), .val (.int (0 : Int32)), .val (.ref w_BID), .val (.int (0 : Int32)), .val (.int (0 : Int32)), .val (.ref w_LOW_BIDDER), .val (.ref w_IDENTICAL_LOW_BIDS), .val (.ref w_BID_code), .val (.int (0 : Int32)), .unset, .unset]) rfl ?_
    show own_S p e below T40 (mkF m 97 #[.val (.int p1), .val (.ref b1), .val (.int (0 : Int32)), .val (.ref w_BID), .val (.int (0 : Int32)), .val (.int (0 : Int32)), .val (.ref w_LOW_BIDDER), .val (.ref w_IDENTICAL_LOW_BIDS), .val (.ref w_BID_code), .val (.int (0 : Int32)), .unset, .unset] []) _
    refine XS.aload X40.here hx rfl (hb hby at_97) rfl rfl ?_
    show own_S p e below T40 (mkF m 99 #[.val (.int p1), .val (.ref b1), .val (.int (0 : Int32)), .val (.ref w_BID), .val (.int (0 : Int32)), .val (.int (0 : Int32)), .val (.ref w_LOW_BIDDER), .val (.ref w_IDENTICAL_LOW_BIDS), .val (.ref w_BID_code), .val (.int (0 : Int32)), .unset, .unset] [(.ref w_LOW_BIDDER)]) _
    refine st41 _ ?_
    show own_S p e below T41 (mkF m 102 #[.val (.int p1), .val (.ref b1), .val (.int (0 : Int32)), .val (.ref w_BID), .val (.int (0 : Int32)), .val (.int (0 : Int32)), .val (.ref w_LOW_BIDDER), .val (.ref w_IDENTICAL_LOW_BIDS), .val (.ref w_BID_code), .val (.int (0 : Int32)), .unset, .unset] [(.ref w_TOP_OFFEROR), (.ref w_LOW_BIDDER)]) _
    refine Jvm.RoadKit.acmp (g := (mkF m 102 #[.val (.int p1), .val (.ref b1), .val (.int (0 : Int32)), .val (.ref w_BID), .val (.int (0 : Int32)), .val (.int (0 : Int32)), .val (.ref w_LOW_BIDDER), .val (.ref w_IDENTICAL_LOW_BIDS), .val (.ref w_BID_code), .val (.int (0 : Int32)), .unset, .unset] [(.ref w_TOP_OFFEROR), (.ref w_LOW_BIDDER)])) X41 hx rfl rfl rfl (pc0 := 102) (pc' := 109) (same := false) rfl (hb hby at_102) rfl (decide_eq_false fun q => hc3 (Value.ref.inj q)) (by decide) (by decide) ?_
    show own_S p e below T41 (mkF m 109 #[.val (.int p1), .val (.ref b1), .val (.int (0 : Int32)), .val (.ref w_BID), .val (.int (0 : Int32)), .val (.int (0 : Int32)), .val (.ref w_LOW_BIDDER), .val (.ref w_IDENTICAL_LOW_BIDS), .val (.ref w_BID_code), .val (.int (0 : Int32)), .unset, .unset] []) _
    refine XS.iconst X41.here hx rfl (hb hby at_109) ?_
    show own_S p e below T41 (mkF m 110 #[.val (.int p1), .val (.ref b1), .val (.int (0 : Int32)), .val (.ref w_BID), .val (.int (0 : Int32)), .val (.int (0 : Int32)), .val (.ref w_LOW_BIDDER), .val (.ref w_IDENTICAL_LOW_BIDS), .val (.ref w_BID_code), .val (.int (0 : Int32)), .unset, .unset] [(.int (0 : Int32))]) _
    refine XS.istore X41.here hx rfl (hb hby at_110) rfl (l' := #[.val (.int p1), .val (.ref b1), .val (.int (0 : Int32)), .val (.ref w_BID), .val (.int (0 : Int32)), .val (.int (0 : Int32)), .val (.ref w_LOW_BIDDER), .val (.ref w_IDENTICAL_LOW_BIDS), .val (.ref w_BID_code), .val (.int (0 : Int32)), .val (.int (0 : Int32)), .unset]) rfl ?_
    show own_S p e below T41 (mkF m 112 #[.val (.int p1), .val (.ref b1), .val (.int (0 : Int32)), .val (.ref w_BID), .val (.int (0 : Int32)), .val (.int (0 : Int32)), .val (.ref w_LOW_BIDDER), .val (.ref w_IDENTICAL_LOW_BIDS), .val (.ref w_BID_code), .val (.int (0 : Int32)), .val (.int (0 : Int32)), .unset] []) _
    refine XS.aload X41.here hx rfl (hb hby at_112) rfl rfl ?_
    show own_S p e below T41 (mkF m 114 #[.val (.int p1), .val (.ref b1), .val (.int (0 : Int32)), .val (.ref w_BID), .val (.int (0 : Int32)), .val (.int (0 : Int32)), .val (.ref w_LOW_BIDDER), .val (.ref w_IDENTICAL_LOW_BIDS), .val (.ref w_BID_code), .val (.int (0 : Int32)), .val (.int (0 : Int32)), .unset] [(.ref w_IDENTICAL_LOW_BIDS)]) _
    refine st42 _ ?_
    show own_S p e below T42 (mkF m 117 #[.val (.int p1), .val (.ref b1), .val (.int (0 : Int32)), .val (.ref w_BID), .val (.int (0 : Int32)), .val (.int (0 : Int32)), .val (.ref w_LOW_BIDDER), .val (.ref w_IDENTICAL_LOW_BIDS), .val (.ref w_BID_code), .val (.int (0 : Int32)), .val (.int (0 : Int32)), .unset] [(.ref w_IDENTICAL_TOP_SCORES), (.ref w_IDENTICAL_LOW_BIDS)]) _
    refine Jvm.RoadKit.acmp (g := (mkF m 117 #[.val (.int p1), .val (.ref b1), .val (.int (0 : Int32)), .val (.ref w_BID), .val (.int (0 : Int32)), .val (.int (0 : Int32)), .val (.ref w_LOW_BIDDER), .val (.ref w_IDENTICAL_LOW_BIDS), .val (.ref w_BID_code), .val (.int (0 : Int32)), .val (.int (0 : Int32)), .unset] [(.ref w_IDENTICAL_TOP_SCORES), (.ref w_IDENTICAL_LOW_BIDS)])) X42 hx rfl rfl rfl (pc0 := 117) (pc' := 124) (same := false) rfl (hb hby at_117) rfl (decide_eq_false fun q => hc4 (Value.ref.inj q)) (by decide) (by decide) ?_
    show own_S p e below T42 (mkF m 124 #[.val (.int p1), .val (.ref b1), .val (.int (0 : Int32)), .val (.ref w_BID), .val (.int (0 : Int32)), .val (.int (0 : Int32)), .val (.ref w_LOW_BIDDER), .val (.ref w_IDENTICAL_LOW_BIDS), .val (.ref w_BID_code), .val (.int (0 : Int32)), .val (.int (0 : Int32)), .unset] []) _
    refine XS.iconst X42.here hx rfl (hb hby at_124) ?_
    show own_S p e below T42 (mkF m 125 #[.val (.int p1), .val (.ref b1), .val (.int (0 : Int32)), .val (.ref w_BID), .val (.int (0 : Int32)), .val (.int (0 : Int32)), .val (.ref w_LOW_BIDDER), .val (.ref w_IDENTICAL_LOW_BIDS), .val (.ref w_BID_code), .val (.int (0 : Int32)), .val (.int (0 : Int32)), .unset] [(.int (0 : Int32))]) _
    refine XS.istore X42.here hx rfl (hb hby at_125) rfl (l' := #[.val (.int p1), .val (.ref b1), .val (.int (0 : Int32)), .val (.ref w_BID), .val (.int (0 : Int32)), .val (.int (0 : Int32)), .val (.ref w_LOW_BIDDER), .val (.ref w_IDENTICAL_LOW_BIDS), .val (.ref w_BID_code), .val (.int (0 : Int32)), .val (.int (0 : Int32)), .val (.int (0 : Int32))]) rfl ?_
    show own_S p e below T42 (mkF m 127 #[.val (.int p1), .val (.ref b1), .val (.int (0 : Int32)), .val (.ref w_BID), .val (.int (0 : Int32)), .val (.int (0 : Int32)), .val (.ref w_LOW_BIDDER), .val (.ref w_IDENTICAL_LOW_BIDS), .val (.ref w_BID_code), .val (.int (0 : Int32)), .val (.int (0 : Int32)), .val (.int (0 : Int32))] []) _
    refine XS.iload X42.here hx rfl (hb hby at_127) rfl ?_
    show own_S p e below T42 (mkF m 129 #[.val (.int p1), .val (.ref b1), .val (.int (0 : Int32)), .val (.ref w_BID), .val (.int (0 : Int32)), .val (.int (0 : Int32)), .val (.ref w_LOW_BIDDER), .val (.ref w_IDENTICAL_LOW_BIDS), .val (.ref w_BID_code), .val (.int (0 : Int32)), .val (.int (0 : Int32)), .val (.int (0 : Int32))] [(.int (0 : Int32))]) _
    refine XS.iload X42.here hx rfl (hb hby at_129) rfl ?_
    show own_S p e below T42 (mkF m 131 #[.val (.int p1), .val (.ref b1), .val (.int (0 : Int32)), .val (.ref w_BID), .val (.int (0 : Int32)), .val (.int (0 : Int32)), .val (.ref w_LOW_BIDDER), .val (.ref w_IDENTICAL_LOW_BIDS), .val (.ref w_BID_code), .val (.int (0 : Int32)), .val (.int (0 : Int32)), .val (.int (0 : Int32))] [(.int (0 : Int32)), (.int (0 : Int32))]) _
    refine XS.icmpNo X42.here hx rfl (hb hby at_131) rfl (teq (rfl : (0 : Int32) = (0 : Int32))).2 ?_
    show own_S p e below T42 (mkF m 134 #[.val (.int p1), .val (.ref b1), .val (.int (0 : Int32)), .val (.ref w_BID), .val (.int (0 : Int32)), .val (.int (0 : Int32)), .val (.ref w_LOW_BIDDER), .val (.ref w_IDENTICAL_LOW_BIDS), .val (.ref w_BID_code), .val (.int (0 : Int32)), .val (.int (0 : Int32)), .val (.int (0 : Int32))] []) _
    refine XS.iload X42.here hx rfl (hb hby at_134) rfl ?_
    show own_S p e below T42 (mkF m 136 #[.val (.int p1), .val (.ref b1), .val (.int (0 : Int32)), .val (.ref w_BID), .val (.int (0 : Int32)), .val (.int (0 : Int32)), .val (.ref w_LOW_BIDDER), .val (.ref w_IDENTICAL_LOW_BIDS), .val (.ref w_BID_code), .val (.int (0 : Int32)), .val (.int (0 : Int32)), .val (.int (0 : Int32))] [(.int (0 : Int32))]) _
    refine XS.iload X42.here hx rfl (hb hby at_136) rfl ?_
    show own_S p e below T42 (mkF m 138 #[.val (.int p1), .val (.ref b1), .val (.int (0 : Int32)), .val (.ref w_BID), .val (.int (0 : Int32)), .val (.int (0 : Int32)), .val (.ref w_LOW_BIDDER), .val (.ref w_IDENTICAL_LOW_BIDS), .val (.ref w_BID_code), .val (.int (0 : Int32)), .val (.int (0 : Int32)), .val (.int (0 : Int32))] [(.int (0 : Int32)), (.int (0 : Int32))]) _
    refine XS.icmpNo X42.here hx rfl (hb hby at_138) rfl (teq (rfl : (0 : Int32) = (0 : Int32))).2 ?_
    show own_S p e below T42 (mkF m 141 #[.val (.int p1), .val (.ref b1), .val (.int (0 : Int32)), .val (.ref w_BID), .val (.int (0 : Int32)), .val (.int (0 : Int32)), .val (.ref w_LOW_BIDDER), .val (.ref w_IDENTICAL_LOW_BIDS), .val (.ref w_BID_code), .val (.int (0 : Int32)), .val (.int (0 : Int32)), .val (.int (0 : Int32))] []) _
    refine XS.iload X42.here hx rfl (hb hby at_141) rfl ?_
    show own_S p e below T42 (mkF m 143 #[.val (.int p1), .val (.ref b1), .val (.int (0 : Int32)), .val (.ref w_BID), .val (.int (0 : Int32)), .val (.int (0 : Int32)), .val (.ref w_LOW_BIDDER), .val (.ref w_IDENTICAL_LOW_BIDS), .val (.ref w_BID_code), .val (.int (0 : Int32)), .val (.int (0 : Int32)), .val (.int (0 : Int32))] [(.int (0 : Int32))]) _
    refine XS.iload X42.here hx rfl (hb hby at_143) rfl ?_
    show own_S p e below T42 (mkF m 145 #[.val (.int p1), .val (.ref b1), .val (.int (0 : Int32)), .val (.ref w_BID), .val (.int (0 : Int32)), .val (.int (0 : Int32)), .val (.ref w_LOW_BIDDER), .val (.ref w_IDENTICAL_LOW_BIDS), .val (.ref w_BID_code), .val (.int (0 : Int32)), .val (.int (0 : Int32)), .val (.int (0 : Int32))] [(.int (0 : Int32)), (.int (0 : Int32))]) _
    refine XS.icmpNo X42.here hx rfl (hb hby at_145) rfl (teq (rfl : (0 : Int32) = (0 : Int32))).2 ?_
    show own_S p e below T42 (mkF m 148 #[.val (.int p1), .val (.ref b1), .val (.int (0 : Int32)), .val (.ref w_BID), .val (.int (0 : Int32)), .val (.int (0 : Int32)), .val (.ref w_LOW_BIDDER), .val (.ref w_IDENTICAL_LOW_BIDS), .val (.ref w_BID_code), .val (.int (0 : Int32)), .val (.int (0 : Int32)), .val (.int (0 : Int32))] []) _
    refine XS.iload X42.here hx rfl (hb hby at_148) rfl ?_
    show own_S p e below T42 (mkF m 150 #[.val (.int p1), .val (.ref b1), .val (.int (0 : Int32)), .val (.ref w_BID), .val (.int (0 : Int32)), .val (.int (0 : Int32)), .val (.ref w_LOW_BIDDER), .val (.ref w_IDENTICAL_LOW_BIDS), .val (.ref w_BID_code), .val (.int (0 : Int32)), .val (.int (0 : Int32)), .val (.int (0 : Int32))] [(.int (0 : Int32))]) _
    refine XS.iload X42.here hx rfl (hb hby at_150) rfl ?_
    show own_S p e below T42 (mkF m 152 #[.val (.int p1), .val (.ref b1), .val (.int (0 : Int32)), .val (.ref w_BID), .val (.int (0 : Int32)), .val (.int (0 : Int32)), .val (.ref w_LOW_BIDDER), .val (.ref w_IDENTICAL_LOW_BIDS), .val (.ref w_BID_code), .val (.int (0 : Int32)), .val (.int (0 : Int32)), .val (.int (0 : Int32))] [(.int (0 : Int32)), (.int (0 : Int32))]) _
    refine XS.icmpNo X42.here hx rfl (hb hby at_152) rfl (teq (rfl : (0 : Int32) = (0 : Int32))).2 ?_
    show own_S p e below T42 (mkF m 155 #[.val (.int p1), .val (.ref b1), .val (.int (0 : Int32)), .val (.ref w_BID), .val (.int (0 : Int32)), .val (.int (0 : Int32)), .val (.ref w_LOW_BIDDER), .val (.ref w_IDENTICAL_LOW_BIDS), .val (.ref w_BID_code), .val (.int (0 : Int32)), .val (.int (0 : Int32)), .val (.int (0 : Int32))] []) _
    refine XS.iconst X42.here hx rfl (hb hby at_155) ?_
    show own_S p e below T42 (mkF m 156 #[.val (.int p1), .val (.ref b1), .val (.int (0 : Int32)), .val (.ref w_BID), .val (.int (0 : Int32)), .val (.int (0 : Int32)), .val (.ref w_LOW_BIDDER), .val (.ref w_IDENTICAL_LOW_BIDS), .val (.ref w_BID_code), .val (.int (0 : Int32)), .val (.int (0 : Int32)), .val (.int (0 : Int32))] [(.int (1 : Int32))]) _
    refine XS.goto X42.here hx rfl (pc0 := 156) (pc' := 160) rfl (hb hby at_156) (by decide) (by decide) ?_
    show own_S p e below T42 (mkF m 160 #[.val (.int p1), .val (.ref b1), .val (.int (0 : Int32)), .val (.ref w_BID), .val (.int (0 : Int32)), .val (.int (0 : Int32)), .val (.ref w_LOW_BIDDER), .val (.ref w_IDENTICAL_LOW_BIDS), .val (.ref w_BID_code), .val (.int (0 : Int32)), .val (.int (0 : Int32)), .val (.int (0 : Int32))] [(.int (1 : Int32))]) _
    exact retN X42 hx (t := .boolean) hret (by simp) (hb hby at_160) hr
  · show Qrm0_0 Z w_BID w_PROPOSAL_POINTS w_PROPOSAL_WEIGHTS w_LOW_BIDDER w_IDENTICAL_LOW_BIDS w_BID_code w_BID_code_value cl_w_BID_code_value w_TOP_OFFEROR w_IDENTICAL_TOP_SCORES w_COMPACT_STRINGS w_SIOOBE_FORMATTER p1 h0 _ T42.heap _
    exact ⟨rfl, N40⟩
def Qrm54 (Z : State) (w_BID : Addr) (w_PROPOSAL_POINTS : Addr) (h0 : Heap) (v : Option Value) (h : Heap) (L : List Loc) : Prop := v = some (.int (1 : Int32)) ∧ Fr Z.heap.size L ∧ h = h0
set_option maxRecDepth 65536 in
set_option maxHeartbeats 40000000 in
theorem rm54 (l : Launch) (Z : State) (a0 : Array Value) (hw : ∀ d ∈ tables_1, d.before a0 Z = true) (ws : List Jvm.Cond) (w_BID : Addr) (w_PROPOSAL_POINTS : Addr) (h0 : Heap) (Z0 : Ext Z.heap h0) (S_w_BID : Sta Z Z.heap "com/example/zia_tally/ziatally/evaluation/Method" "BID" "Lcom/example/zia_tally/ziatally/evaluation/Method;" (.ref w_BID)) (hc6 : ¬ (w_PROPOSAL_POINTS = w_BID)) :
    own_met l y_0 prog_7_method_5_code 1 (some .boolean) ws ({ frames := 0, cells := 0, slots := 0, locals := 0 } : Room) Z #[(.ref w_PROPOSAL_POINTS)] h0 (Qrm54 Z w_BID w_PROPOSAL_POINTS h0) := by
  refine own_start (plainFor_of_name pn_0) (fun m => ef_prog_7_method_5_R m w_PROPOSAL_POINTS) ?_
  intro p e s m below meth c s₁ hx hby hml hown hnm X0 hZ e0 hret hlk
  have N0 := Fr.nil Z.heap.size
  obtain ⟨T55, X55, e55, st55⟩ := getS2 X0 hx hZ hown (host := "") (Or.inl (own_w hw 16 rfl)) Via.refl e0 (S_w_BID.ext Z0) (g := (mkF m 1 #[.val (.ref w_PROPOSAL_POINTS)] [(.ref w_PROPOSAL_POINTS)])) rfl (hb hby d_prog_7_method_5_1)
  obtain ⟨fs, hr, hrun, hended, hW, hsame⟩ := X55.leave (v := some (.int (1 : Int32))) (fun h => by rw [hret] at h; cases h) hlk
  refine ⟨_, _, ?_, hrun, hended, _, _, rfl, ?_, ⟨_, rfl⟩, hW, hsame.mono (by decide) (by decide)⟩
  · show own_S p e below s₁ (mkF m 0 #[.val (.ref w_PROPOSAL_POINTS)] []) _
    refine XS.aloadN X0.here hx rfl (hb hby d_prog_7_method_5_0) rfl rfl ?_
    show own_S p e below s₁ (mkF m 1 #[.val (.ref w_PROPOSAL_POINTS)] [(.ref w_PROPOSAL_POINTS)]) _
    refine st55 _ ?_
    show own_S p e below T55 (mkF m 4 #[.val (.ref w_PROPOSAL_POINTS)] [(.ref w_BID), (.ref w_PROPOSAL_POINTS)]) _
    refine Jvm.RoadKit.acmp (g := (mkF m 4 #[.val (.ref w_PROPOSAL_POINTS)] [(.ref w_BID), (.ref w_PROPOSAL_POINTS)])) X55 hx rfl rfl rfl (pc0 := 4) (pc' := 7) (same := false) rfl (hb hby d_prog_7_method_5_4) rfl (decide_eq_false fun q => hc6 (Value.ref.inj q)) (by decide) (by decide) ?_
    show own_S p e below T55 (mkF m 7 #[.val (.ref w_PROPOSAL_POINTS)] []) _
    refine XS.iconst X55.here hx rfl (hb hby d_prog_7_method_5_7) ?_
    show own_S p e below T55 (mkF m 8 #[.val (.ref w_PROPOSAL_POINTS)] [(.int (1 : Int32))]) _
    refine XS.goto X55.here hx rfl (pc0 := 8) (pc' := 12) rfl (hb hby d_prog_7_method_5_8) (by decide) (by decide) ?_
    show own_S p e below T55 (mkF m 12 #[.val (.ref w_PROPOSAL_POINTS)] [(.int (1 : Int32))]) _
    exact retN X55 hx (t := .boolean) hret (by simp) (hb hby d_prog_7_method_5_12) hr
  · show Qrm54 Z w_BID w_PROPOSAL_POINTS h0 _ T55.heap _
    rw [e55]
    exact ⟨rfl, N0, rfl⟩
def Qrm57 (Z : State) (w_PROPOSAL_POINTS : Addr) (w_TOP_OFFEROR : Addr) (h0 : Heap) (v : Option Value) (h : Heap) (L : List Loc) : Prop := v = some (.ref w_TOP_OFFEROR) ∧ Fr Z.heap.size L ∧ h = h0
set_option maxRecDepth 65536 in
set_option maxHeartbeats 40000000 in
theorem rm57 (l : Launch) (Z : State) (a0 : Array Value) (hw : ∀ d ∈ tables_1, d.before a0 Z = true) (ws : List Jvm.Cond) (w_PROPOSAL_POINTS : Addr) (w_TOP_OFFEROR : Addr) (h0 : Heap) (Z0 : Ext Z.heap h0) (F_w_PROPOSAL_POINTS_single : Fld Z Z.heap w_PROPOSAL_POINTS "com/example/zia_tally/ziatally/evaluation/Method" "single" "Lcom/example/zia_tally/ziatally/evaluation/Outcome;" (.ref w_TOP_OFFEROR)) :
    own_met l y_1 prog_7_method_7_code 2 (some (.object "com/example/zia_tally/ziatally/evaluation/Outcome")) ws ({ frames := 0, cells := 0, slots := 0, locals := 0 } : Room) Z #[(.ref w_PROPOSAL_POINTS), (.int (0 : Int32))] h0 (Qrm57 Z w_PROPOSAL_POINTS w_TOP_OFFEROR h0) := by
  refine own_start (plainFor_of_name pn_0) (fun m => ef_prog_7_method_7_RI m w_PROPOSAL_POINTS (0 : Int32)) ?_
  intro p e s m below meth c s₁ hx hby hml hown hnm X0 hZ e0 hret hlk
  have N0 := Fr.nil Z.heap.size
  obtain ⟨T58, X58, e58, st58⟩ := getF X0 hx hZ hown (host := "") (Or.inl (own_w hw 22 rfl)) Via.refl e0 (F_w_PROPOSAL_POINTS_single.ext Z0) (g := (mkF m 12 #[.val (.ref w_PROPOSAL_POINTS), .val (.int (0 : Int32))] [(.ref w_PROPOSAL_POINTS)])) rfl rfl (hb hby d_prog_7_method_7_12)
  obtain ⟨fs, hr, hrun, hended, hW, hsame⟩ := X58.leave (v := some (.ref w_TOP_OFFEROR)) (fun h => by rw [hret] at h; cases h) hlk
  refine ⟨_, _, ?_, hrun, hended, _, _, rfl, ?_, ⟨_, rfl⟩, hW, hsame.mono (by decide) (by decide)⟩
  · show own_S p e below s₁ (mkF m 0 #[.val (.ref w_PROPOSAL_POINTS), .val (.int (0 : Int32))] []) _
    refine XS.iloadN X0.here hx rfl (hb hby d_prog_7_method_7_0) rfl ?_
    show own_S p e below s₁ (mkF m 1 #[.val (.ref w_PROPOSAL_POINTS), .val (.int (0 : Int32))] [(.int (0 : Int32))]) _
    refine XS.ifYes X0.here hx rfl (pc0 := 1) (pc' := 11) rfl (hb hby d_prog_7_method_7_1) rfl ((if0 _ _).trans (teq (rfl : (0 : Int32) = (0 : Int32))).1) (by decide) (by decide) ?_
    show own_S p e below s₁ (mkF m 11 #[.val (.ref w_PROPOSAL_POINTS), .val (.int (0 : Int32))] []) _
    refine XS.aloadN X0.here hx rfl (hb hby d_prog_7_method_7_11) rfl rfl ?_
    show own_S p e below s₁ (mkF m 12 #[.val (.ref w_PROPOSAL_POINTS), .val (.int (0 : Int32))] [(.ref w_PROPOSAL_POINTS)]) _
    refine st58 _ ?_
    show own_S p e below T58 (mkF m 15 #[.val (.ref w_PROPOSAL_POINTS), .val (.int (0 : Int32))] [(.ref w_TOP_OFFEROR)]) _
    jvm_step X58.here [X58.here.top, hx, (hb hby d_prog_7_method_7_15), X58.method', hret, Value.isRef, FieldType.isReference]
    first | (intro acts; rw [hr _ acts rfl rfl rfl]) | rw [hr _ _ rfl rfl rfl]
    exact Steps.refl _
  · show Qrm57 Z w_PROPOSAL_POINTS w_TOP_OFFEROR h0 _ T58.heap _
    rw [e58]
    exact ⟨rfl, N0, rfl⟩
def Qrm60 (Z : State) (w_PROPOSAL_POINTS : Addr) (w_IDENTICAL_TOP_SCORES : Addr) (h0 : Heap) (v : Option Value) (h : Heap) (L : List Loc) : Prop := v = some (.ref w_IDENTICAL_TOP_SCORES) ∧ Fr Z.heap.size L ∧ h = h0
set_option maxRecDepth 65536 in
set_option maxHeartbeats 40000000 in
theorem rm60 (l : Launch) (Z : State) (a0 : Array Value) (hw : ∀ d ∈ tables_1, d.before a0 Z = true) (ws : List Jvm.Cond) (w_PROPOSAL_POINTS : Addr) (w_IDENTICAL_TOP_SCORES : Addr) (h0 : Heap) (Z0 : Ext Z.heap h0) (F_w_PROPOSAL_POINTS_tied : Fld Z Z.heap w_PROPOSAL_POINTS "com/example/zia_tally/ziatally/evaluation/Method" "tied" "Lcom/example/zia_tally/ziatally/evaluation/Outcome;" (.ref w_IDENTICAL_TOP_SCORES)) :
    own_met l y_1 prog_7_method_7_code 2 (some (.object "com/example/zia_tally/ziatally/evaluation/Outcome")) ws ({ frames := 0, cells := 0, slots := 0, locals := 0 } : Room) Z #[(.ref w_PROPOSAL_POINTS), (.int (1 : Int32))] h0 (Qrm60 Z w_PROPOSAL_POINTS w_IDENTICAL_TOP_SCORES h0) := by
  refine own_start (plainFor_of_name pn_0) (fun m => ef_prog_7_method_7_RI m w_PROPOSAL_POINTS (1 : Int32)) ?_
  intro p e s m below meth c s₁ hx hby hml hown hnm X0 hZ e0 hret hlk
  have N0 := Fr.nil Z.heap.size
  obtain ⟨T61, X61, e61, st61⟩ := getF X0 hx hZ hown (host := "") (Or.inl (own_w hw 26 rfl)) Via.refl e0 (F_w_PROPOSAL_POINTS_tied.ext Z0) (g := (mkF m 5 #[.val (.ref w_PROPOSAL_POINTS), .val (.int (1 : Int32))] [(.ref w_PROPOSAL_POINTS)])) rfl rfl (hb hby d_prog_7_method_7_5)
  obtain ⟨fs, hr, hrun, hended, hW, hsame⟩ := X61.leave (v := some (.ref w_IDENTICAL_TOP_SCORES)) (fun h => by rw [hret] at h; cases h) hlk
  refine ⟨_, _, ?_, hrun, hended, _, _, rfl, ?_, ⟨_, rfl⟩, hW, hsame.mono (by decide) (by decide)⟩
  · show own_S p e below s₁ (mkF m 0 #[.val (.ref w_PROPOSAL_POINTS), .val (.int (1 : Int32))] []) _
    refine XS.iloadN X0.here hx rfl (hb hby d_prog_7_method_7_0) rfl ?_
    show own_S p e below s₁ (mkF m 1 #[.val (.ref w_PROPOSAL_POINTS), .val (.int (1 : Int32))] [(.int (1 : Int32))]) _
    refine XS.ifNo X0.here hx rfl (hb hby d_prog_7_method_7_1) rfl ((if0 _ _).trans (feq (by decide : ¬ ((1 : Int32) = (0 : Int32)))).1) ?_
    show own_S p e below s₁ (mkF m 4 #[.val (.ref w_PROPOSAL_POINTS), .val (.int (1 : Int32))] []) _
    refine XS.aloadN X0.here hx rfl (hb hby d_prog_7_method_7_4) rfl rfl ?_
    show own_S p e below s₁ (mkF m 5 #[.val (.ref w_PROPOSAL_POINTS), .val (.int (1 : Int32))] [(.ref w_PROPOSAL_POINTS)]) _
    refine st61 _ ?_
    show own_S p e below T61 (mkF m 8 #[.val (.ref w_PROPOSAL_POINTS), .val (.int (1 : Int32))] [(.ref w_IDENTICAL_TOP_SCORES)]) _
    refine XS.goto X61.here hx rfl (pc0 := 8) (pc' := 15) rfl (hb hby d_prog_7_method_7_8) (by decide) (by decide) ?_
    show own_S p e below T61 (mkF m 15 #[.val (.ref w_PROPOSAL_POINTS), .val (.int (1 : Int32))] [(.ref w_IDENTICAL_TOP_SCORES)]) _
    jvm_step X61.here [X61.here.top, hx, (hb hby d_prog_7_method_7_15), X61.method', hret, Value.isRef, FieldType.isReference]
    first | (intro acts; rw [hr _ acts rfl rfl rfl]) | rw [hr _ _ rfl rfl rfl]
    exact Steps.refl _
  · show Qrm60 Z w_PROPOSAL_POINTS w_IDENTICAL_TOP_SCORES h0 _ T61.heap _
    rw [e61]
    exact ⟨rfl, N0, rfl⟩
def Qrm63 (Z : State) (w_PROPOSAL_POINTS : Addr) (w_PROPOSAL_POINTS_code : Addr) (h0 : Heap) (v : Option Value) (h : Heap) (L : List Loc) : Prop := v = some (.ref w_PROPOSAL_POINTS_code) ∧ Fr Z.heap.size L ∧ h = h0
set_option maxRecDepth 65536 in
set_option maxHeartbeats 40000000 in
theorem rm63 (l : Launch) (Z : State) (a0 : Array Value) (hw : ∀ d ∈ tables_1, d.before a0 Z = true) (ws : List Jvm.Cond) (w_PROPOSAL_POINTS : Addr) (w_PROPOSAL_POINTS_code : Addr) (h0 : Heap) (Z0 : Ext Z.heap h0) (F_w_PROPOSAL_POINTS_code : Fld Z Z.heap w_PROPOSAL_POINTS "com/example/zia_tally/ziatally/evaluation/Method" "code" "Ljava/lang/String;" (.ref w_PROPOSAL_POINTS_code)) :
    own_met l y_2 prog_7_method_4_code 1 (some (.object "java/lang/String")) ws ({ frames := 0, cells := 0, slots := 0, locals := 0 } : Room) Z #[(.ref w_PROPOSAL_POINTS)] h0 (Qrm63 Z w_PROPOSAL_POINTS w_PROPOSAL_POINTS_code h0) := by
  refine own_start (plainFor_of_name pn_0) (fun m => ef_prog_7_method_4_R m w_PROPOSAL_POINTS) ?_
  intro p e s m below meth c s₁ hx hby hml hown hnm X0 hZ e0 hret hlk
  have N0 := Fr.nil Z.heap.size
  obtain ⟨T64, X64, e64, st64⟩ := getF X0 hx hZ hown (host := "") (Or.inl (own_w hw 34 rfl)) Via.refl e0 (F_w_PROPOSAL_POINTS_code.ext Z0) (g := (mkF m 1 #[.val (.ref w_PROPOSAL_POINTS)] [(.ref w_PROPOSAL_POINTS)])) rfl rfl (hb hby d_prog_7_method_4_1)
  obtain ⟨fs, hr, hrun, hended, hW, hsame⟩ := X64.leave (v := some (.ref w_PROPOSAL_POINTS_code)) (fun h => by rw [hret] at h; cases h) hlk
  refine ⟨_, _, ?_, hrun, hended, _, _, rfl, ?_, ⟨_, rfl⟩, hW, hsame.mono (by decide) (by decide)⟩
  · show own_S p e below s₁ (mkF m 0 #[.val (.ref w_PROPOSAL_POINTS)] []) _
    refine XS.aloadN X0.here hx rfl (hb hby d_prog_7_method_4_0) rfl rfl ?_
    show own_S p e below s₁ (mkF m 1 #[.val (.ref w_PROPOSAL_POINTS)] [(.ref w_PROPOSAL_POINTS)]) _
    refine st64 _ ?_
    show own_S p e below T64 (mkF m 4 #[.val (.ref w_PROPOSAL_POINTS)] [(.ref w_PROPOSAL_POINTS_code)]) _
    jvm_step X64.here [X64.here.top, hx, (hb hby d_prog_7_method_4_4), X64.method', hret, Value.isRef, FieldType.isReference]
    first | (intro acts; rw [hr _ acts rfl rfl rfl]) | rw [hr _ _ rfl rfl rfl]
    exact Steps.refl _
  · show Qrm63 Z w_PROPOSAL_POINTS w_PROPOSAL_POINTS_code h0 _ T64.heap _
    rw [e64]
    exact ⟨rfl, N0, rfl⟩
def Qrm66 (Z : State) (w_PROPOSAL_POINTS_code : Addr) (w_PROPOSAL_POINTS_code_value : Addr) (cl_w_PROPOSAL_POINTS_code_value : Cell) (h0 : Heap) (v : Option Value) (h : Heap) (L : List Loc) : Prop := v = some (.int (0 : Int32)) ∧ Fr Z.heap.size L ∧ h = h0
set_option maxRecDepth 65536 in
set_option maxHeartbeats 40000000 in
theorem rm66 (l : Launch) (Z : State) (a0 : Array Value) (hw : ∀ d ∈ tables_1, d.before a0 Z = true) (ws : List Jvm.Cond) (w_PROPOSAL_POINTS_code : Addr) (w_PROPOSAL_POINTS_code_value : Addr) (cl_w_PROPOSAL_POINTS_code_value : Cell) (h0 : Heap) (Z0 : Ext Z.heap h0) (F_w_PROPOSAL_POINTS_code_value : Fld Z Z.heap w_PROPOSAL_POINTS_code "java/lang/String" "value" "[B" (.ref w_PROPOSAL_POINTS_code_value)) (Ar_w_PROPOSAL_POINTS_code_value : Arr Z Z.heap w_PROPOSAL_POINTS_code_value cl_w_PROPOSAL_POINTS_code_value .byte) (Sz_w_PROPOSAL_POINTS_code_value : cl_w_PROPOSAL_POINTS_code_value.slots.size = (15 : Int32).toNatClampNeg) :
    own_met l y_3 jdk_42_method_55_code 1 (some .boolean) ws ({ frames := 0, cells := 0, slots := 0, locals := 0 } : Room) Z #[(.ref w_PROPOSAL_POINTS_code)] h0 (Qrm66 Z w_PROPOSAL_POINTS_code w_PROPOSAL_POINTS_code_value cl_w_PROPOSAL_POINTS_code_value h0) := by
  refine own_start (plainFor_of_name pn_1) (fun m => ef_jdk_42_method_55_R m w_PROPOSAL_POINTS_code) ?_
  intro p e s m below meth c s₁ hx hby hml hown hnm X0 hZ e0 hret hlk
  have N0 := Fr.nil Z.heap.size
  obtain ⟨T67, X67, e67, st67⟩ := getF X0 hx hZ hown (host := "") (Or.inl (own_w hw 42 rfl)) Via.refl e0 (F_w_PROPOSAL_POINTS_code_value.ext Z0) (g := (mkF m 1 #[.val (.ref w_PROPOSAL_POINTS_code)] [(.ref w_PROPOSAL_POINTS_code)])) rfl rfl (hb hby d_jdk_42_method_55_1)
  obtain ⟨fs, hr, hrun, hended, hW, hsame⟩ := X67.leave (v := some (.int (0 : Int32))) (fun h => by rw [hret] at h; cases h) hlk
  refine ⟨_, _, ?_, hrun, hended, _, _, rfl, ?_, ⟨_, rfl⟩, hW, hsame.mono (by decide) (by decide)⟩
  · show own_S p e below s₁ (mkF m 0 #[.val (.ref w_PROPOSAL_POINTS_code)] []) _
    refine XS.aloadN X0.here hx rfl (hb hby d_jdk_42_method_55_0) rfl rfl ?_
    show own_S p e below s₁ (mkF m 1 #[.val (.ref w_PROPOSAL_POINTS_code)] [(.ref w_PROPOSAL_POINTS_code)]) _
    refine st67 _ ?_
    show own_S p e below T67 (mkF m 4 #[.val (.ref w_PROPOSAL_POINTS_code)] [(.ref w_PROPOSAL_POINTS_code_value)]) _
    refine X67.arraylength hx (by rw [e67]; exact (Ar_w_PROPOSAL_POINTS_code_value.ext Z0).1) (State.isArrayOf_alike hZ.alike (Ar_w_PROPOSAL_POINTS_code_value.ext Z0).2.1) (g := (mkF m 4 #[.val (.ref w_PROPOSAL_POINTS_code)] [(.ref w_PROPOSAL_POINTS_code_value)])) rfl rfl (hb hby d_jdk_42_method_55_4) _ ?_
    rw [len_of Sz_w_PROPOSAL_POINTS_code_value (by decide)]
    show own_S p e below T67 (mkF m 5 #[.val (.ref w_PROPOSAL_POINTS_code)] [(.int (15 : Int32))]) _
    refine XS.ifYes X67.here hx rfl (pc0 := 5) (pc' := 12) rfl (hb hby d_jdk_42_method_55_5) rfl ((if0 _ _).trans (feq (by decide : ¬ ((15 : Int32) = (0 : Int32)))).2) (by decide) (by decide) ?_
    show own_S p e below T67 (mkF m 12 #[.val (.ref w_PROPOSAL_POINTS_code)] []) _
    refine XS.iconst X67.here hx rfl (hb hby d_jdk_42_method_55_12) ?_
    show own_S p e below T67 (mkF m 13 #[.val (.ref w_PROPOSAL_POINTS_code)] [(.int (0 : Int32))]) _
    exact retN X67 hx (t := .boolean) hret (by simp) (hb hby d_jdk_42_method_55_13) hr
  · show Qrm66 Z w_PROPOSAL_POINTS_code w_PROPOSAL_POINTS_code_value cl_w_PROPOSAL_POINTS_code_value h0 _ T67.heap _
    rw [e67]
    exact ⟨rfl, N0, rfl⟩
def Qrm70 (Z : State) (w_PROPOSAL_POINTS_code : Addr) (w_COMPACT_STRINGS : Int32) (h0 : Heap) (v : Option Value) (h : Heap) (L : List Loc) : Prop := v = some (.int (1 : Int32)) ∧ Fr Z.heap.size L ∧ h = h0
set_option maxRecDepth 65536 in
set_option maxHeartbeats 40000000 in
theorem rm70 (l : Launch) (Z : State) (a0 : Array Value) (hw : ∀ d ∈ tables_1, d.before a0 Z = true) (ws : List Jvm.Cond) (w_PROPOSAL_POINTS_code : Addr) (w_COMPACT_STRINGS : Int32) (h0 : Heap) (Z0 : Ext Z.heap h0) (S_w_COMPACT_STRINGS : Sta Z Z.heap "java/lang/String" "COMPACT_STRINGS" "Z" (.int w_COMPACT_STRINGS)) (F_w_PROPOSAL_POINTS_code_coder : Fld Z Z.heap w_PROPOSAL_POINTS_code "java/lang/String" "coder" "B" (.int (0 : Int32))) (hc1 : ¬ (w_COMPACT_STRINGS = (0 : Int32))) :
    own_met l y_4 jdk_42_method_154_code 1 (some .boolean) ws ({ frames := 0, cells := 0, slots := 0, locals := 0 } : Room) Z #[(.ref w_PROPOSAL_POINTS_code)] h0 (Qrm70 Z w_PROPOSAL_POINTS_code w_COMPACT_STRINGS h0) := by
  refine own_start (plainFor_of_name pn_1) (fun m => ef_jdk_42_method_154_R m w_PROPOSAL_POINTS_code) ?_
  intro p e s m below meth c s₁ hx hby hml hown hnm X0 hZ e0 hret hlk
  have N0 := Fr.nil Z.heap.size
  obtain ⟨T71, X71, e71, st71⟩ := getS2 X0 hx hZ hown (host := "") (Or.inl (own_w hw 54 rfl)) Via.refl e0 (S_w_COMPACT_STRINGS.ext Z0) (g := (mkF m 0 #[.val (.ref w_PROPOSAL_POINTS_code)] [])) rfl (hb hby d_jdk_42_method_154_0)
  obtain ⟨T72, X72, e72, st72⟩ := getF X71 hx hZ hown (host := "") (Or.inl (own_w hw 55 rfl)) Via.refl e71 (F_w_PROPOSAL_POINTS_code_coder.ext Z0) (g := (mkF m 7 #[.val (.ref w_PROPOSAL_POINTS_code)] [(.ref w_PROPOSAL_POINTS_code)])) rfl rfl (hb hby d_jdk_42_method_154_7)
  obtain ⟨fs, hr, hrun, hended, hW, hsame⟩ := X72.leave (v := some (.int (1 : Int32))) (fun h => by rw [hret] at h; cases h) hlk
  refine ⟨_, _, ?_, hrun, hended, _, _, rfl, ?_, ⟨_, rfl⟩, hW, hsame.mono (by decide) (by decide)⟩
  · show own_S p e below s₁ (mkF m 0 #[.val (.ref w_PROPOSAL_POINTS_code)] []) _
    refine st71 _ ?_
    show own_S p e below T71 (mkF m 3 #[.val (.ref w_PROPOSAL_POINTS_code)] [(.int w_COMPACT_STRINGS)]) _
    refine XS.ifNo X71.here hx rfl (hb hby d_jdk_42_method_154_3) rfl ((if0 _ _).trans (feq hc1).1) ?_
    show own_S p e below T71 (mkF m 6 #[.val (.ref w_PROPOSAL_POINTS_code)] []) _
    refine XS.aloadN X71.here hx rfl (hb hby d_jdk_42_method_154_6) rfl rfl ?_
    show own_S p e below T71 (mkF m 7 #[.val (.ref w_PROPOSAL_POINTS_code)] [(.ref w_PROPOSAL_POINTS_code)]) _
    refine st72 _ ?_
    show own_S p e below T72 (mkF m 10 #[.val (.ref w_PROPOSAL_POINTS_code)] [(.int (0 : Int32))]) _
    refine XS.ifNo X72.here hx rfl (hb hby d_jdk_42_method_154_10) rfl ((if0 _ _).trans (teq (rfl : (0 : Int32) = (0 : Int32))).2) ?_
    show own_S p e below T72 (mkF m 13 #[.val (.ref w_PROPOSAL_POINTS_code)] []) _
    refine XS.iconst X72.here hx rfl (hb hby d_jdk_42_method_154_13) ?_
    show own_S p e below T72 (mkF m 14 #[.val (.ref w_PROPOSAL_POINTS_code)] [(.int (1 : Int32))]) _
    refine XS.goto X72.here hx rfl (pc0 := 14) (pc' := 18) rfl (hb hby d_jdk_42_method_154_14) (by decide) (by decide) ?_
    show own_S p e below T72 (mkF m 18 #[.val (.ref w_PROPOSAL_POINTS_code)] [(.int (1 : Int32))]) _
    exact retN X72 hx (t := .boolean) hret (by simp) (hb hby d_jdk_42_method_154_18) hr
  · show Qrm70 Z w_PROPOSAL_POINTS_code w_COMPACT_STRINGS h0 _ T72.heap _
    rw [e72]
    exact ⟨rfl, N0, rfl⟩
def Qrm78 (Z : State) (w_SIOOBE_FORMATTER : Value) (h0 : Heap) (v : Option Value) (h : Heap) (L : List Loc) : Prop := v = some (.int (0 : Int32)) ∧ Fr Z.heap.size L ∧ h = h0
set_option maxRecDepth 65536 in
set_option maxHeartbeats 40000000 in
theorem rm78 (l : Launch) (Z : State) (a0 : Array Value) (hw : ∀ d ∈ tables_1, d.before a0 Z = true) (ws : List Jvm.Cond) (w_SIOOBE_FORMATTER : Value) (h0 : Heap) (Z0 : Ext Z.heap h0) (R_w_SIOOBE_FORMATTER : w_SIOOBE_FORMATTER.isRef = true) :
    own_met l y_5 jdk_41_method_11_code 3 (some .int) ws ({ frames := 0, cells := 0, slots := 0, locals := 0 } : Room) Z #[(.int (0 : Int32)), (.int (15 : Int32)), w_SIOOBE_FORMATTER] h0 (Qrm78 Z w_SIOOBE_FORMATTER h0) := by
  refine own_start (plainFor_of_name pn_2) (fun m => ef_jdk_41_method_11_IIX m (0 : Int32) (15 : Int32) w_SIOOBE_FORMATTER R_w_SIOOBE_FORMATTER) ?_
  intro p e s m below meth c s₁ hx hby hml hown hnm X0 hZ e0 hret hlk
  have N0 := Fr.nil Z.heap.size
  obtain ⟨fs, hr, hrun, hended, hW, hsame⟩ := X0.leave (v := some (.int (0 : Int32))) (fun h => by rw [hret] at h; cases h) hlk
  refine ⟨_, _, ?_, hrun, hended, _, _, rfl, ?_, ⟨_, rfl⟩, hW, hsame.mono (by decide) (by decide)⟩
  · show own_S p e below s₁ (mkF m 0 #[.val (.int (0 : Int32)), .val (.int (15 : Int32)), .val w_SIOOBE_FORMATTER] []) _
    refine XS.iloadN X0.here hx rfl (hb hby d_jdk_41_method_11_0) rfl ?_
    show own_S p e below s₁ (mkF m 1 #[.val (.int (0 : Int32)), .val (.int (15 : Int32)), .val w_SIOOBE_FORMATTER] [(.int (0 : Int32))]) _
    refine XS.ifNo X0.here hx rfl (hb hby d_jdk_41_method_11_1) rfl ((if0 _ _).trans (flt (Int32.lt_irrefl : ¬ ((0 : Int32) < (0 : Int32)))).1) ?_
    show own_S p e below s₁ (mkF m 4 #[.val (.int (0 : Int32)), .val (.int (15 : Int32)), .val w_SIOOBE_FORMATTER] []) _
    refine XS.iloadN X0.here hx rfl (hb hby d_jdk_41_method_11_4) rfl ?_
    show own_S p e below s₁ (mkF m 5 #[.val (.int (0 : Int32)), .val (.int (15 : Int32)), .val w_SIOOBE_FORMATTER] [(.int (0 : Int32))]) _
    refine XS.iloadN X0.here hx rfl (hb hby d_jdk_41_method_11_5) rfl ?_
    show own_S p e below s₁ (mkF m 6 #[.val (.int (0 : Int32)), .val (.int (15 : Int32)), .val w_SIOOBE_FORMATTER] [(.int (15 : Int32)), (.int (0 : Int32))]) _
    refine XS.icmpYes X0.here hx rfl (pc0 := 6) (pc' := 16) rfl (hb hby d_jdk_41_method_11_6) rfl (tlt (by decide : (0 : Int32) < (15 : Int32))).1 (by decide) (by decide) ?_
    show own_S p e below s₁ (mkF m 16 #[.val (.int (0 : Int32)), .val (.int (15 : Int32)), .val w_SIOOBE_FORMATTER] []) _
    refine XS.iloadN X0.here hx rfl (hb hby d_jdk_41_method_11_16) rfl ?_
    show own_S p e below s₁ (mkF m 17 #[.val (.int (0 : Int32)), .val (.int (15 : Int32)), .val w_SIOOBE_FORMATTER] [(.int (0 : Int32))]) _
    exact retI X0 hx hret (hb hby d_jdk_41_method_11_17) hr
  · show Qrm78 Z w_SIOOBE_FORMATTER h0 _ s₁.heap _
    rw [e0]
    exact ⟨rfl, N0, rfl⟩
def Qrm76 (Z : State) (w_SIOOBE_FORMATTER : Value) (h0 : Heap) (v : Option Value) (h : Heap) (L : List Loc) : Prop := v = none ∧ Fr Z.heap.size L ∧ h = h0
set_option maxRecDepth 65536 in
set_option maxHeartbeats 40000000 in
theorem rm76 (l : Launch) (Z : State) (a0 : Array Value) (hw : ∀ d ∈ tables_1, d.before a0 Z = true) (ws : List Jvm.Cond) (w_SIOOBE_FORMATTER : Value) (h0 : Heap) (Z0 : Ext Z.heap h0) (S_w_SIOOBE_FORMATTER : Sta Z Z.heap "jdk/internal/util/Preconditions" "SIOOBE_FORMATTER" "Ljava/util/function/BiFunction;" w_SIOOBE_FORMATTER) (R_w_SIOOBE_FORMATTER : w_SIOOBE_FORMATTER.isRef = true) :
    own_met l y_6 jdk_42_method_155_code 2 none ws ({ frames := 1, cells := 0, slots := 0, locals := 14 } : Room) Z #[(.int (0 : Int32)), (.int (15 : Int32))] h0 (Qrm76 Z w_SIOOBE_FORMATTER h0) := by
  refine own_start (plainFor_of_name pn_1) (fun m => ef_jdk_42_method_155_II m (0 : Int32) (15 : Int32)) ?_
  intro p e s m below meth c s₁ hx hby hml hown hnm X0 hZ e0 hret hlk
  have N0 := Fr.nil Z.heap.size
  obtain ⟨T77, X77, e77, st77⟩ := getS2 X0 hx hZ hown (host := "") (Or.inl (own_w hw 64 rfl)) Via.refl e0 (S_w_SIOOBE_FORMATTER.ext Z0) (g := (mkF m 2 #[.val (.int (0 : Int32)), .val (.int (15 : Int32))] [(.int (15 : Int32)), (.int (0 : Int32))])) rfl (hb hby d_jdk_42_method_155_2)
  obtain ⟨_, T79, Lc79, X79, hQ79, st79⟩ := own_static (y := y_5) X77 hx hZ hown (own_w hw 66 rfl) (own_w hw 67 rfl) (own_w hw 65 rfl) (own_w hw 68 rfl) (by decide) (rm78 l Z a0 hw [] w_SIOOBE_FORMATTER h0 Z0 R_w_SIOOBE_FORMATTER) (by decide) (by decide) e77 (g := (mkF m 5 #[.val (.int (0 : Int32)), .val (.int (15 : Int32))] [w_SIOOBE_FORMATTER, (.int (15 : Int32)), (.int (0 : Int32))])) rfl (by rw [hml]; rfl) (argsL := [(.int (0 : Int32)), (.int (15 : Int32)), w_SIOOBE_FORMATTER]) (rest := []) (lenOf pd_3 rfl) rfl rfl (W := 0) (by show 2 * 0 + _ ≤ _; exact Nat.le_of_eq rfl) (hb hby d_jdk_42_method_155_5) (by decide) (by decide)
  obtain ⟨rfl, N79q, e79⟩ := hQ79
  have N79 := Fr.app N0 N79q
  obtain ⟨fs, hr, hrun, hended, hW, hsame⟩ := X79.leave (v := none) (fun _ => rfl) hlk
  refine ⟨_, _, ?_, hrun, hended, _, _, rfl, ?_, ⟨_, rfl⟩, hW, hsame.mono (by decide) (by decide)⟩
  · show own_S p e below s₁ (mkF m 0 #[.val (.int (0 : Int32)), .val (.int (15 : Int32))] []) _
    refine XS.iloadN X0.here hx rfl (hb hby d_jdk_42_method_155_0) rfl ?_
    show own_S p e below s₁ (mkF m 1 #[.val (.int (0 : Int32)), .val (.int (15 : Int32))] [(.int (0 : Int32))]) _
    refine XS.iloadN X0.here hx rfl (hb hby d_jdk_42_method_155_1) rfl ?_
    show own_S p e below s₁ (mkF m 2 #[.val (.int (0 : Int32)), .val (.int (15 : Int32))] [(.int (15 : Int32)), (.int (0 : Int32))]) _
    refine st77 _ ?_
    show own_S p e below T77 (mkF m 5 #[.val (.int (0 : Int32)), .val (.int (15 : Int32))] [w_SIOOBE_FORMATTER, (.int (15 : Int32)), (.int (0 : Int32))]) _
    refine st79 _ ?_
    show own_S p e below T79 (mkF m 8 #[.val (.int (0 : Int32)), .val (.int (15 : Int32))] [(.int (0 : Int32))]) _
    refine XS.pop X79.here hx rfl (hb hby d_jdk_42_method_155_8) rfl rfl ?_
    show own_S p e below T79 (mkF m 9 #[.val (.int (0 : Int32)), .val (.int (15 : Int32))] []) _
    exact X79.returnOut hx hret (hb hby d_jdk_42_method_155_9) hr
  · show Qrm76 Z w_SIOOBE_FORMATTER h0 _ T79.heap _
    rw [e79]
    exact ⟨rfl, N79, rfl⟩
def Qrm75 (Z : State) (w_PROPOSAL_POINTS_code_value : Addr) (cl_w_PROPOSAL_POINTS_code_value : Cell) (w_SIOOBE_FORMATTER : Value) (h0 : Heap) (v : Option Value) (h : Heap) (L : List Loc) : Prop := v = some (.int (112 : Int32)) ∧ Fr Z.heap.size L ∧ h = h0
set_option maxRecDepth 65536 in
set_option maxHeartbeats 40000000 in
theorem rm75 (l : Launch) (Z : State) (a0 : Array Value) (hw : ∀ d ∈ tables_1, d.before a0 Z = true) (ws : List Jvm.Cond) (w_PROPOSAL_POINTS_code_value : Addr) (cl_w_PROPOSAL_POINTS_code_value : Cell) (w_SIOOBE_FORMATTER : Value) (h0 : Heap) (Z0 : Ext Z.heap h0) (Ar_w_PROPOSAL_POINTS_code_value : Arr Z Z.heap w_PROPOSAL_POINTS_code_value cl_w_PROPOSAL_POINTS_code_value .byte) (Sz_w_PROPOSAL_POINTS_code_value : cl_w_PROPOSAL_POINTS_code_value.slots.size = (15 : Int32).toNatClampNeg) (S_w_SIOOBE_FORMATTER : Sta Z Z.heap "jdk/internal/util/Preconditions" "SIOOBE_FORMATTER" "Ljava/util/function/BiFunction;" w_SIOOBE_FORMATTER) (R_w_SIOOBE_FORMATTER : w_SIOOBE_FORMATTER.isRef = true) (hin_w_PROPOSAL_POINTS_code_value_0 : ¬ ((0 : Int32) < 0 ∨ cl_w_PROPOSAL_POINTS_code_value.slots.size ≤ ((0 : Int32)).toNatClampNeg)) (hat_w_PROPOSAL_POINTS_code_value_0 : cl_w_PROPOSAL_POINTS_code_value.slots[((0 : Int32)).toNatClampNeg]? = some (.int (112 : Int32))) :
    own_met l y_7 jdk_43_method_2_code 2 (some .char) ws ({ frames := 2, cells := 0, slots := 0, locals := 27 } : Room) Z #[(.ref w_PROPOSAL_POINTS_code_value), (.int (0 : Int32))] h0 (Qrm75 Z w_PROPOSAL_POINTS_code_value cl_w_PROPOSAL_POINTS_code_value w_SIOOBE_FORMATTER h0) := by
  refine own_start (plainFor_of_name pn_3) (fun m => ef_jdk_43_method_2_RI m w_PROPOSAL_POINTS_code_value (0 : Int32)) ?_
  intro p e s m below meth c s₁ hx hby hml hown hnm X0 hZ e0 hret hlk
  have N0 := Fr.nil Z.heap.size
  obtain ⟨_, T80, Lc80, X80, hQ80, st80⟩ := own_static (y := y_6) X0 hx hZ hown (own_w hw 61 rfl) (own_w hw 62 rfl) (own_w hw 40 rfl) (own_w hw 63 rfl) (by decide) (rm76 l Z a0 hw [] w_SIOOBE_FORMATTER h0 Z0 S_w_SIOOBE_FORMATTER R_w_SIOOBE_FORMATTER) (by decide) (by decide) e0 (g := (mkF m 3 #[.val (.ref w_PROPOSAL_POINTS_code_value), .val (.int (0 : Int32))] [(.int (15 : Int32)), (.int (0 : Int32))])) rfl (by rw [hml]; rfl) (argsL := [(.int (0 : Int32)), (.int (15 : Int32))]) (rest := []) (lenOf pd_4 rfl) rfl rfl (W := 0) (by show 2 * 0 + _ ≤ _; exact Nat.le_of_eq rfl) (hb hby d_jdk_43_method_2_3) (by decide) (by decide)
  obtain ⟨rfl, N80q, e80⟩ := hQ80
  have N80 := Fr.app N0 N80q
  obtain ⟨fs, hr, hrun, hended, hW, hsame⟩ := X80.leave (v := some (.int (112 : Int32))) (fun h => by rw [hret] at h; cases h) hlk
  refine ⟨_, _, ?_, hrun, hended, _, _, rfl, ?_, ⟨_, rfl⟩, hW, hsame.mono (by decide) (by decide)⟩
  · show own_S p e below s₁ (mkF m 0 #[.val (.ref w_PROPOSAL_POINTS_code_value), .val (.int (0 : Int32))] []) _
    refine XS.iloadN X0.here hx rfl (hb hby d_jdk_43_method_2_0) rfl ?_
    show own_S p e below s₁ (mkF m 1 #[.val (.ref w_PROPOSAL_POINTS_code_value), .val (.int (0 : Int32))] [(.int (0 : Int32))]) _
    refine XS.aloadN X0.here hx rfl (hb hby d_jdk_43_method_2_1) rfl rfl ?_
    show own_S p e below s₁ (mkF m 2 #[.val (.ref w_PROPOSAL_POINTS_code_value), .val (.int (0 : Int32))] [(.ref w_PROPOSAL_POINTS_code_value), (.int (0 : Int32))]) _
    refine X0.arraylength hx (by rw [e0]; exact (Ar_w_PROPOSAL_POINTS_code_value.ext Z0).1) (State.isArrayOf_alike hZ.alike (Ar_w_PROPOSAL_POINTS_code_value.ext Z0).2.1) (g := (mkF m 2 #[.val (.ref w_PROPOSAL_POINTS_code_value), .val (.int (0 : Int32))] [(.ref w_PROPOSAL_POINTS_code_value), (.int (0 : Int32))])) rfl rfl (hb hby d_jdk_43_method_2_2) _ ?_
    rw [len_of Sz_w_PROPOSAL_POINTS_code_value (by decide)]
    show own_S p e below s₁ (mkF m 3 #[.val (.ref w_PROPOSAL_POINTS_code_value), .val (.int (0 : Int32))] [(.int (15 : Int32)), (.int (0 : Int32))]) _
    refine st80 _ ?_
    show own_S p e below T80 (mkF m 6 #[.val (.ref w_PROPOSAL_POINTS_code_value), .val (.int (0 : Int32))] []) _
    refine XS.aloadN X80.here hx rfl (hb hby d_jdk_43_method_2_6) rfl rfl ?_
    show own_S p e below T80 (mkF m 7 #[.val (.ref w_PROPOSAL_POINTS_code_value), .val (.int (0 : Int32))] [(.ref w_PROPOSAL_POINTS_code_value)]) _
    refine XS.iloadN X80.here hx rfl (hb hby d_jdk_43_method_2_7) rfl ?_
    show own_S p e below T80 (mkF m 8 #[.val (.ref w_PROPOSAL_POINTS_code_value), .val (.int (0 : Int32))] [(.int (0 : Int32)), (.ref w_PROPOSAL_POINTS_code_value)]) _
    refine X80.baloadBytes hx (j := (0 : Int32)) (v := (.int (112 : Int32))) (by rw [e80]; exact (Ar_w_PROPOSAL_POINTS_code_value.ext Z0).1) (State.isArrayOf_alike hZ.alike (Ar_w_PROPOSAL_POINTS_code_value.ext Z0).2.1) (Ar_w_PROPOSAL_POINTS_code_value.ext Z0).2.2 hin_w_PROPOSAL_POINTS_code_value_0 hat_w_PROPOSAL_POINTS_code_value_0 (g := (mkF m 8 #[.val (.ref w_PROPOSAL_POINTS_code_value), .val (.int (0 : Int32))] [(.int (0 : Int32)), (.ref w_PROPOSAL_POINTS_code_value)])) rfl rfl (hb hby d_jdk_43_method_2_8) _ ?_
    show own_S p e below T80 (mkF m 9 #[.val (.ref w_PROPOSAL_POINTS_code_value), .val (.int (0 : Int32))] [(.int (112 : Int32))]) _
    refine XS.sipush X80.here hx rfl (hb hby d_jdk_43_method_2_9) ?_
    show own_S p e below T80 (mkF m 12 #[.val (.ref w_PROPOSAL_POINTS_code_value), .val (.int (0 : Int32))] [(.int (255 : Int32)), (.int (112 : Int32))]) _
    refine XS.iand X80.here hx rfl (hb hby d_jdk_43_method_2_12) rfl ?_
    show own_S p e below T80 (mkF m 13 #[.val (.ref w_PROPOSAL_POINTS_code_value), .val (.int (0 : Int32))] [(.int ((112 : Int32) &&& (255 : Int32)))]) _
    rw [(by decide : ((112 : Int32) &&& (255 : Int32)) = (112 : Int32))]
    show own_S p e below T80 (mkF m 13 #[.val (.ref w_PROPOSAL_POINTS_code_value), .val (.int (0 : Int32))] [(.int (112 : Int32))]) _
    refine XS.i2c X80.here hx rfl (hb hby d_jdk_43_method_2_13) rfl ?_
    show own_S p e below T80 (mkF m 14 #[.val (.ref w_PROPOSAL_POINTS_code_value), .val (.int (0 : Int32))] [(.int ((112 : Int32).toUInt32.toUInt16.toUInt32.toInt32))]) _
    rw [(by decide : ((112 : Int32).toUInt32.toUInt16.toUInt32.toInt32) = (112 : Int32))]
    show own_S p e below T80 (mkF m 14 #[.val (.ref w_PROPOSAL_POINTS_code_value), .val (.int (0 : Int32))] [(.int (112 : Int32))]) _
    exact retN X80 hx (t := .char) hret (by simp) (hb hby d_jdk_43_method_2_14) hr
  · show Qrm75 Z w_PROPOSAL_POINTS_code_value cl_w_PROPOSAL_POINTS_code_value w_SIOOBE_FORMATTER h0 _ T80.heap _
    rw [e80]
    exact ⟨rfl, N80, rfl⟩
def Qrm69 (Z : State) (w_PROPOSAL_POINTS_code : Addr) (w_PROPOSAL_POINTS_code_value : Addr) (cl_w_PROPOSAL_POINTS_code_value : Cell) (w_COMPACT_STRINGS : Int32) (w_SIOOBE_FORMATTER : Value) (h0 : Heap) (v : Option Value) (h : Heap) (L : List Loc) : Prop := v = some (.int (112 : Int32)) ∧ Fr Z.heap.size L ∧ h = h0
set_option maxRecDepth 65536 in
set_option maxHeartbeats 40000000 in
theorem rm69 (l : Launch) (Z : State) (a0 : Array Value) (hw : ∀ d ∈ tables_1, d.before a0 Z = true) (ws : List Jvm.Cond) (w_PROPOSAL_POINTS_code : Addr) (w_PROPOSAL_POINTS_code_value : Addr) (cl_w_PROPOSAL_POINTS_code_value : Cell) (w_COMPACT_STRINGS : Int32) (w_SIOOBE_FORMATTER : Value) (h0 : Heap) (Z0 : Ext Z.heap h0) (E_w_PROPOSAL_POINTS_code : Exa Z Z.heap w_PROPOSAL_POINTS_code "java/lang/String") (S_w_COMPACT_STRINGS : Sta Z Z.heap "java/lang/String" "COMPACT_STRINGS" "Z" (.int w_COMPACT_STRINGS)) (F_w_PROPOSAL_POINTS_code_coder : Fld Z Z.heap w_PROPOSAL_POINTS_code "java/lang/String" "coder" "B" (.int (0 : Int32))) (F_w_PROPOSAL_POINTS_code_value : Fld Z Z.heap w_PROPOSAL_POINTS_code "java/lang/String" "value" "[B" (.ref w_PROPOSAL_POINTS_code_value)) (Ar_w_PROPOSAL_POINTS_code_value : Arr Z Z.heap w_PROPOSAL_POINTS_code_value cl_w_PROPOSAL_POINTS_code_value .byte) (Sz_w_PROPOSAL_POINTS_code_value : cl_w_PROPOSAL_POINTS_code_value.slots.size = (15 : Int32).toNatClampNeg) (S_w_SIOOBE_FORMATTER : Sta Z Z.heap "jdk/internal/util/Preconditions" "SIOOBE_FORMATTER" "Ljava/util/function/BiFunction;" w_SIOOBE_FORMATTER) (R_w_SIOOBE_FORMATTER : w_SIOOBE_FORMATTER.isRef = true) (hin_w_PROPOSAL_POINTS_code_value_0 : ¬ ((0 : Int32) < 0 ∨ cl_w_PROPOSAL_POINTS_code_value.slots.size ≤ ((0 : Int32)).toNatClampNeg)) (hat_w_PROPOSAL_POINTS_code_value_0 : cl_w_PROPOSAL_POINTS_code_value.slots[((0 : Int32)).toNatClampNeg]? = some (.int (112 : Int32))) (hc1 : ¬ (w_COMPACT_STRINGS = (0 : Int32))) :
    own_met l y_8 jdk_42_method_56_code 2 (some .char) ws ({ frames := 3, cells := 0, slots := 0, locals := 40 } : Room) Z #[(.ref w_PROPOSAL_POINTS_code), (.int (0 : Int32))] h0 (Qrm69 Z w_PROPOSAL_POINTS_code w_PROPOSAL_POINTS_code_value cl_w_PROPOSAL_POINTS_code_value w_COMPACT_STRINGS w_SIOOBE_FORMATTER h0) := by
  refine own_start (plainFor_of_name pn_1) (fun m => ef_jdk_42_method_56_RI m w_PROPOSAL_POINTS_code (0 : Int32)) ?_
  intro p e s m below meth c s₁ hx hby hml hown hnm X0 hZ e0 hret hlk
  have N0 := Fr.nil Z.heap.size
  obtain ⟨_, T73, Lc73, X73, hQ73, st73⟩ := own_virtual (y := y_4) X0 hx hZ hown (own_w hw 49 rfl) (own_w hw 50 rfl) (own_w hw 52 rfl) (own_w hw 51 rfl) (own_w hw 40 rfl) (own_w hw 53 rfl) (by decide) (rm70 l Z a0 hw [] w_PROPOSAL_POINTS_code w_COMPACT_STRINGS h0 Z0 S_w_COMPACT_STRINGS F_w_PROPOSAL_POINTS_code_coder hc1) (by decide) (by decide) e0 (E_w_PROPOSAL_POINTS_code.ext Z0) (g := (mkF m 1 #[.val (.ref w_PROPOSAL_POINTS_code), .val (.int (0 : Int32))] [(.ref w_PROPOSAL_POINTS_code)])) rfl (by rw [hml]; rfl) (argsL := []) (rest := []) (lenOf pd_0 rfl) rfl rfl (W := 0) (by show 2 * 0 + _ ≤ _; exact Nat.le_of_eq rfl) (hb hby d_jdk_42_method_56_1) (by decide) (by decide)
  obtain ⟨rfl, N73q, e73⟩ := hQ73
  have N73 := Fr.app N0 N73q
  obtain ⟨T74, X74, e74, st74⟩ := getF X73 hx hZ hown (host := "") (Or.inl (own_w hw 42 rfl)) Via.refl e73 (F_w_PROPOSAL_POINTS_code_value.ext Z0) (g := (mkF m 8 #[.val (.ref w_PROPOSAL_POINTS_code), .val (.int (0 : Int32))] [(.ref w_PROPOSAL_POINTS_code)])) rfl rfl (hb hby d_jdk_42_method_56_8)
  obtain ⟨_, T81, Lc81, X81, hQ81, st81⟩ := own_static (y := y_7) X74 hx hZ hown (own_w hw 57 rfl) (own_w hw 58 rfl) (own_w hw 59 rfl) (own_w hw 60 rfl) (by decide) (rm75 l Z a0 hw [] w_PROPOSAL_POINTS_code_value cl_w_PROPOSAL_POINTS_code_value w_SIOOBE_FORMATTER h0 Z0 Ar_w_PROPOSAL_POINTS_code_value Sz_w_PROPOSAL_POINTS_code_value S_w_SIOOBE_FORMATTER R_w_SIOOBE_FORMATTER hin_w_PROPOSAL_POINTS_code_value_0 hat_w_PROPOSAL_POINTS_code_value_0) (by decide) (by decide) e74 (g := (mkF m 12 #[.val (.ref w_PROPOSAL_POINTS_code), .val (.int (0 : Int32))] [(.int (0 : Int32)), (.ref w_PROPOSAL_POINTS_code_value)])) rfl (by rw [hml]; rfl) (argsL := [(.ref w_PROPOSAL_POINTS_code_value), (.int (0 : Int32))]) (rest := []) (lenOf pd_5 rfl) rfl rfl (W := 0) (by show 2 * 0 + _ ≤ _; exact Nat.le_of_eq rfl) (hb hby d_jdk_42_method_56_12) (by decide) (by decide)
  obtain ⟨rfl, N81q, e81⟩ := hQ81
  have N81 := Fr.app N73 N81q
  obtain ⟨fs, hr, hrun, hended, hW, hsame⟩ := X81.leave (v := some (.int (112 : Int32))) (fun h => by rw [hret] at h; cases h) hlk
  refine ⟨_, _, ?_, hrun, hended, _, _, rfl, ?_, ⟨_, rfl⟩, hW, hsame.mono (by decide) (by decide)⟩
  · show own_S p e below s₁ (mkF m 0 #[.val (.ref w_PROPOSAL_POINTS_code), .val (.int (0 : Int32))] []) _
    refine XS.aloadN X0.here hx rfl (hb hby d_jdk_42_method_56_0) rfl rfl ?_
    show own_S p e below s₁ (mkF m 1 #[.val (.ref w_PROPOSAL_POINTS_code), .val (.int (0 : Int32))] [(.ref w_PROPOSAL_POINTS_code)]) _
    refine st73 _ ?_
    show own_S p e below T73 (mkF m 4 #[.val (.ref w_PROPOSAL_POINTS_code), .val (.int (0 : Int32))] [(.int (1 : Int32))]) _
    refine XS.ifNo X73.here hx rfl (hb hby d_jdk_42_method_56_4) rfl ((if0 _ _).trans (feq (by decide : ¬ ((1 : Int32) = (0 : Int32)))).1) ?_
    show own_S p e below T73 (mkF m 7 #[.val (.ref w_PROPOSAL_POINTS_code), .val (.int (0 : Int32))] []) _
    refine XS.aloadN X73.here hx rfl (hb hby d_jdk_42_method_56_7) rfl rfl ?_
    show own_S p e below T73 (mkF m 8 #[.val (.ref w_PROPOSAL_POINTS_code), .val (.int (0 : Int32))] [(.ref w_PROPOSAL_POINTS_code)]) _
    refine st74 _ ?_
    show own_S p e below T74 (mkF m 11 #[.val (.ref w_PROPOSAL_POINTS_code), .val (.int (0 : Int32))] [(.ref w_PROPOSAL_POINTS_code_value)]) _
    refine XS.iloadN X74.here hx rfl (hb hby d_jdk_42_method_56_11) rfl ?_
    show own_S p e below T74 (mkF m 12 #[.val (.ref w_PROPOSAL_POINTS_code), .val (.int (0 : Int32))] [(.int (0 : Int32)), (.ref w_PROPOSAL_POINTS_code_value)]) _
    refine st81 _ ?_
    show own_S p e below T81 (mkF m 15 #[.val (.ref w_PROPOSAL_POINTS_code), .val (.int (0 : Int32))] [(.int (112 : Int32))]) _
    exact retN X81 hx (t := .char) hret (by simp) (hb hby d_jdk_42_method_56_15) hr
  · show Qrm69 Z w_PROPOSAL_POINTS_code w_PROPOSAL_POINTS_code_value cl_w_PROPOSAL_POINTS_code_value w_COMPACT_STRINGS w_SIOOBE_FORMATTER h0 _ T81.heap _
    rw [e81]
    exact ⟨rfl, N81, rfl⟩
def Qrm0_1 (Z : State) (w_BID : Addr) (w_PROPOSAL_POINTS : Addr) (w_PROPOSAL_WEIGHTS : Addr) (w_TOP_OFFEROR : Addr) (w_IDENTICAL_TOP_SCORES : Addr) (w_PROPOSAL_POINTS_code : Addr) (w_PROPOSAL_POINTS_code_value : Addr) (cl_w_PROPOSAL_POINTS_code_value : Cell) (w_COMPACT_STRINGS : Int32) (w_SIOOBE_FORMATTER : Value) (p1 : Int32) (h0 : Heap) (v : Option Value) (h : Heap) (L : List Loc) : Prop := v = some (.int 1) ∧ Fr Z.heap.size L
set_option maxRecDepth 65536 in
set_option maxHeartbeats 40000000 in
theorem rm0_1 (l : Launch) (Z : State) (a0 : Array Value) (hw : ∀ d ∈ tables_1, d.before a0 Z = true) (ws : List Jvm.Cond) (w_BID : Addr) (w_PROPOSAL_POINTS : Addr) (w_PROPOSAL_WEIGHTS : Addr) (w_TOP_OFFEROR : Addr) (w_IDENTICAL_TOP_SCORES : Addr) (w_PROPOSAL_POINTS_code : Addr) (w_PROPOSAL_POINTS_code_value : Addr) (cl_w_PROPOSAL_POINTS_code_value : Cell) (w_COMPACT_STRINGS : Int32) (w_SIOOBE_FORMATTER : Value) (p1 : Int32) (h0 : Heap) (Z0 : Ext Z.heap h0) (S_w_BID : Sta Z Z.heap "com/example/zia_tally/ziatally/evaluation/Method" "BID" "Lcom/example/zia_tally/ziatally/evaluation/Method;" (.ref w_BID)) (E_w_BID : Exa Z Z.heap w_BID "com/example/zia_tally/ziatally/evaluation/Method") (S_w_PROPOSAL_POINTS : Sta Z Z.heap "com/example/zia_tally/ziatally/evaluation/Method" "PROPOSAL_POINTS" "Lcom/example/zia_tally/ziatally/evaluation/Method;" (.ref w_PROPOSAL_POINTS)) (E_w_PROPOSAL_POINTS : Exa Z Z.heap w_PROPOSAL_POINTS "com/example/zia_tally/ziatally/evaluation/Method") (S_w_PROPOSAL_WEIGHTS : Sta Z Z.heap "com/example/zia_tally/ziatally/evaluation/Method" "PROPOSAL_WEIGHTS" "Lcom/example/zia_tally/ziatally/evaluation/Method;" (.ref w_PROPOSAL_WEIGHTS)) (E_w_PROPOSAL_WEIGHTS : Exa Z Z.heap w_PROPOSAL_WEIGHTS "com/example/zia_tally/ziatally/evaluation/Method") (F_w_PROPOSAL_POINTS_single : Fld Z Z.heap w_PROPOSAL_POINTS "com/example/zia_tally/ziatally/evaluation/Method" "single" "Lcom/example/zia_tally/ziatally/evaluation/Outcome;" (.ref w_TOP_OFFEROR)) (F_w_PROPOSAL_POINTS_tied : Fld Z Z.heap w_PROPOSAL_POINTS "com/example/zia_tally/ziatally/evaluation/Method" "tied" "Lcom/example/zia_tally/ziatally/evaluation/Outcome;" (.ref w_IDENTICAL_TOP_SCORES)) (F_w_PROPOSAL_POINTS_code : Fld Z Z.heap w_PROPOSAL_POINTS "com/example/zia_tally/ziatally/evaluation/Method" "code" "Ljava/lang/String;" (.ref w_PROPOSAL_POINTS_code)) (E_w_PROPOSAL_POINTS_code : Exa Z Z.heap w_PROPOSAL_POINTS_code "java/lang/String") (F_w_PROPOSAL_POINTS_code_value : Fld Z Z.heap w_PROPOSAL_POINTS_code "java/lang/String" "value" "[B" (.ref w_PROPOSAL_POINTS_code_value)) (Ar_w_PROPOSAL_POINTS_code_value : Arr Z Z.heap w_PROPOSAL_POINTS_code_value cl_w_PROPOSAL_POINTS_code_value .byte) (Sz_w_PROPOSAL_POINTS_code_value : cl_w_PROPOSAL_POINTS_code_value.slots.size = (15 : Int32).toNatClampNeg) (S_w_COMPACT_STRINGS : Sta Z Z.heap "java/lang/String" "COMPACT_STRINGS" "Z" (.int w_COMPACT_STRINGS)) (F_w_PROPOSAL_POINTS_code_coder : Fld Z Z.heap w_PROPOSAL_POINTS_code "java/lang/String" "coder" "B" (.int (0 : Int32))) (S_w_SIOOBE_FORMATTER : Sta Z Z.heap "jdk/internal/util/Preconditions" "SIOOBE_FORMATTER" "Ljava/util/function/BiFunction;" w_SIOOBE_FORMATTER) (R_w_SIOOBE_FORMATTER : w_SIOOBE_FORMATTER.isRef = true) (hin_w_PROPOSAL_POINTS_code_value_0 : ¬ ((0 : Int32) < 0 ∨ cl_w_PROPOSAL_POINTS_code_value.slots.size ≤ ((0 : Int32)).toNatClampNeg)) (hat_w_PROPOSAL_POINTS_code_value_0 : cl_w_PROPOSAL_POINTS_code_value.slots[((0 : Int32)).toNatClampNeg]? = some (.int (112 : Int32))) (S_w_TOP_OFFEROR : Sta Z Z.heap "com/example/zia_tally/ziatally/evaluation/Outcome" "TOP_OFFEROR" "Lcom/example/zia_tally/ziatally/evaluation/Outcome;" (.ref w_TOP_OFFEROR)) (S_w_IDENTICAL_TOP_SCORES : Sta Z Z.heap "com/example/zia_tally/ziatally/evaluation/Outcome" "IDENTICAL_TOP_SCORES" "Lcom/example/zia_tally/ziatally/evaluation/Outcome;" (.ref w_IDENTICAL_TOP_SCORES)) (hc5 : ((p1 &&& (2147483647 : Int32)) % (3 : Int32)) = (1 : Int32)) (hc6 : ¬ (w_PROPOSAL_POINTS = w_BID)) (hc1 : ¬ (w_COMPACT_STRINGS = (0 : Int32))) :
    own_met l x code maxLocals ret ws room_1 Z #[(.int p1)] h0 (Qrm0_1 Z w_BID w_PROPOSAL_POINTS w_PROPOSAL_WEIGHTS w_TOP_OFFEROR w_IDENTICAL_TOP_SCORES w_PROPOSAL_POINTS_code w_PROPOSAL_POINTS_code_value cl_w_PROPOSAL_POINTS_code_value w_COMPACT_STRINGS w_SIOOBE_FORMATTER p1 h0) := by
  refine own_start (plainFor_of_name pn_4) (fun m => ef_code_I m p1) ?_
  intro p e s m below meth c s₁ hx hby hml hown hnm X0 hZ e0 hret hlk
  have N0 := Fr.nil Z.heap.size
  obtain ⟨T43, h43, k43, X43, e43, E43, A43, O43, st43⟩ := newR X0 hx hZ hown (own_w hw 0 rfl) (own_w hw 1 rfl) e0 (g := (mkF m 1 #[.val (.int p1), .unset, .unset, .unset, .unset, .unset, .unset, .unset, .unset, .unset, .unset, .unset] [(.int (3 : Int32))])) rfl (hb hby at_1) rfl (by decide) (cap := 3) (by decide) (by decide) (by decide) (by decide)
  obtain ⟨b43, g43⟩ : ∃ z, z = h0.size := ⟨_, rfl⟩
  rw [← g43] at A43 st43
  have g_b43 : Z.heap.size ≤ b43 := Nat.le_trans Z0.1 (Nat.le_of_eq g43.symm)
  have sz_b43 : h0.size ≤ b43 := Nat.le_trans (Keep.refl h0 []).1 (Nat.le_of_eq g43.symm)
  have V_b43 : Arv Z h43 b43 k43 (.object "com/example/zia_tally/ziatally/evaluation/Method") (3 : Int32) [.null, .null, .null] .null := (Arv.new A43 (by decide)).pad (pad_rep [] .null 3)
  have K43 : Keep h0 h43 [] := (Keep.refl h0 []).ext E43
  have XX43 : Ext Z.heap h43 := own_ext2 Z0 E43
  obtain ⟨T44, X44, e44, st44⟩ := getS2 X43 hx hZ hown (host := "") (Or.inl (own_w hw 2 rfl)) Via.refl e43 (S_w_BID.ext XX43) (g := (mkF m 6 #[.val (.int p1), .unset, .unset, .unset, .unset, .unset, .unset, .unset, .unset, .unset, .unset, .unset] [(.int (0 : Int32)), (.ref b43), (.ref b43)])) rfl (hb hby at_6)
  obtain ⟨cl45, Ar45, q45, S45, Nn45, H45, G45⟩ := V_b43
  have hin45 : ¬ ((0 : Int32) < 0 ∨ cl45.slots.size ≤ ((0 : Int32)).toNatClampNeg) := inb_of S45 ⟨by decide, by decide⟩
  obtain ⟨T46, h46, X46, e46, W46, st46⟩ := stR X44 hx hZ e44 Ar45 (j := (0 : Int32)) hin45 rfl (Sto.ofV Ar45 q45 O43 (Ins.self (E_w_BID.ext XX43))) (g := (mkF m 9 #[.val (.int p1), .unset, .unset, .unset, .unset, .unset, .unset, .unset, .unset, .unset, .unset, .unset] [(.ref w_BID), (.int (0 : Int32)), (.ref b43), (.ref b43)])) rfl rfl (hb hby at_9)
  have V46 : Arv Z h46 b43 k43 (.object "com/example/zia_tally/ziatally/evaluation/Method") (3 : Int32) [(.ref w_BID), .null, .null] .null := Arv.set Ar45 q45 S45 Nn45 H45 G45 rfl W46 0 rfl (Nat.le_of_ble_eq_true rfl)
  have K46 : Keep h0 h46 [] := K43.wr W46 (Or.inr sz_b43)
  have XX46 : Ext Z.heap h46 := own_extW XX43 W46 g_b43
  have N46 := Fr.snoc X46 N0 g_b43
  obtain ⟨T47, X47, e47, st47⟩ := getS2 X46 hx hZ hown (host := "") (Or.inl (own_w hw 6 rfl)) Via.refl e46 (S_w_PROPOSAL_POINTS.ext XX46) (g := (mkF m 12 #[.val (.int p1), .unset, .unset, .unset, .unset, .unset, .unset, .unset, .unset, .unset, .unset, .unset] [(.int (1 : Int32)), (.ref b43), (.ref b43)])) rfl (hb hby at_12)
  obtain ⟨cl48, Ar48, q48, S48, Nn48, H48, G48⟩ := V46
  have hin48 : ¬ ((1 : Int32) < 0 ∨ cl48.slots.size ≤ ((1 : Int32)).toNatClampNeg) := inb_of S48 ⟨by decide, by decide⟩
  obtain ⟨T49, h49, X49, e49, W49, st49⟩ := stR X47 hx hZ e47 Ar48 (j := (1 : Int32)) hin48 rfl (Sto.ofV Ar48 q48 O43 (Ins.self (E_w_PROPOSAL_POINTS.ext XX46))) (g := (mkF m 15 #[.val (.int p1), .unset, .unset, .unset, .unset, .unset, .unset, .unset, .unset, .unset, .unset, .unset] [(.ref w_PROPOSAL_POINTS), (.int (1 : Int32)), (.ref b43), (.ref b43)])) rfl rfl (hb hby at_15)
  have V49 : Arv Z h49 b43 k43 (.object "com/example/zia_tally/ziatally/evaluation/Method") (3 : Int32) [(.ref w_BID), (.ref w_PROPOSAL_POINTS), .null] .null := Arv.set Ar48 q48 S48 Nn48 H48 G48 rfl W49 1 rfl (Nat.le_of_ble_eq_true rfl)
  have K49 : Keep h0 h49 [] := K46.wr W49 (Or.inr sz_b43)
  have XX49 : Ext Z.heap h49 := own_extW XX46 W49 g_b43
  have N49 := Fr.snoc X49 N46 g_b43
  obtain ⟨T50, X50, e50, st50⟩ := getS2 X49 hx hZ hown (host := "") (Or.inl (own_w hw 8 rfl)) Via.refl e49 (S_w_PROPOSAL_WEIGHTS.ext XX49) (g := (mkF m 18 #[.val (.int p1), .unset, .unset, .unset, .unset, .unset, .unset, .unset, .unset, .unset, .unset, .unset] [(.int (2 : Int32)), (.ref b43), (.ref b43)])) rfl (hb hby at_18)
  obtain ⟨cl51, Ar51, q51, S51, Nn51, H51, G51⟩ := V49
  have hin51 : ¬ ((2 : Int32) < 0 ∨ cl51.slots.size ≤ ((2 : Int32)).toNatClampNeg) := inb_of S51 ⟨by decide, by decide⟩
  obtain ⟨T52, h52, X52, e52, W52, st52⟩ := stR X50 hx hZ e50 Ar51 (j := (2 : Int32)) hin51 rfl (Sto.ofV Ar51 q51 O43 (Ins.self (E_w_PROPOSAL_WEIGHTS.ext XX49))) (g := (mkF m 21 #[.val (.int p1), .unset, .unset, .unset, .unset, .unset, .unset, .unset, .unset, .unset, .unset, .unset] [(.ref w_PROPOSAL_WEIGHTS), (.int (2 : Int32)), (.ref b43), (.ref b43)])) rfl rfl (hb hby at_21)
  have V52 : Arv Z h52 b43 k43 (.object "com/example/zia_tally/ziatally/evaluation/Method") (3 : Int32) [(.ref w_BID), (.ref w_PROPOSAL_POINTS), (.ref w_PROPOSAL_WEIGHTS)] .null := Arv.set Ar51 q51 S51 Nn51 H51 G51 rfl W52 2 rfl (Nat.le_of_ble_eq_true rfl)
  have K52 : Keep h0 h52 [] := K49.wr W52 (Or.inr sz_b43)
  have XX52 : Ext Z.heap h52 := own_extW XX49 W52 g_b43
  have N52 := Fr.snoc X52 N49 g_b43
  obtain ⟨cl53, Ar53, q53, S53, Nn53, H53, G53⟩ := V52
  have hin53 : ¬ ((1 : Int32) < 0 ∨ cl53.slots.size ≤ ((1 : Int32)).toNatClampNeg) := inb_of S53 ⟨by decide, by decide⟩
  have hat53 : cl53.slots[((1 : Int32)).toNatClampNeg]? = some (.ref w_PROPOSAL_POINTS) := Has.at H53 hin53 rfl
  obtain ⟨_, T56, Lc56, X56, hQ56, st56⟩ := own_virtual (y := y_0) X52 hx hZ hown (own_w hw 11 rfl) (own_w hw 12 rfl) (own_w hw 14 rfl) (own_w hw 13 rfl) (own_w hw 3 rfl) (own_w hw 15 rfl) (by decide) (rm54 l Z a0 hw [] w_BID w_PROPOSAL_POINTS h52 XX52 S_w_BID hc6) (by decide) (by decide) e52 (E_w_PROPOSAL_POINTS.ext XX52) (g := (mkF m 35 #[.val (.int p1), .val (.ref b43), .val (.int (1 : Int32)), .val (.ref w_PROPOSAL_POINTS), .unset, .unset, .unset, .unset, .unset, .unset, .unset, .unset] [(.ref w_PROPOSAL_POINTS)])) rfl (by rw [hml]; rfl) (argsL := []) (rest := []) (lenOf pd_0 rfl) rfl rfl (W := 0) (by show 2 * 0 + _ ≤ _; exact Nat.le_of_eq rfl) (hb hby at_35) (by decide) (by decide)
  obtain ⟨rfl, N56q, e56⟩ := hQ56
  have N56 := Fr.app N52 N56q
  obtain ⟨_, T59, Lc59, X59, hQ59, st59⟩ := own_virtual (y := y_1) X56 hx hZ hown (own_w hw 17 rfl) (own_w hw 18 rfl) (own_w hw 20 rfl) (own_w hw 19 rfl) (own_w hw 3 rfl) (own_w hw 21 rfl) (by decide) (rm57 l Z a0 hw [] w_PROPOSAL_POINTS w_TOP_OFFEROR h52 XX52 F_w_PROPOSAL_POINTS_single) (by decide) (by decide) e56 (E_w_PROPOSAL_POINTS.ext XX52) (g := (mkF m 53 #[.val (.int p1), .val (.ref b43), .val (.int (1 : Int32)), .val (.ref w_PROPOSAL_POINTS), .val (.int (1 : Int32)), .val (.int (1 : Int32)), .unset, .unset, .unset, .unset, .unset, .unset] [(.int (0 : Int32)), (.ref w_PROPOSAL_POINTS)])) rfl (by rw [hml]; rfl) (argsL := [(.int (0 : Int32))]) (rest := []) (lenOf pd_1 rfl) rfl rfl (W := 0) (by show 2 * 0 + _ ≤ _; exact Nat.le_of_eq rfl) (hb hby at_53) (by decide) (by decide)
  obtain ⟨rfl, N59q, e59⟩ := hQ59
  have N59 := Fr.app N56 N59q
  obtain ⟨_, T62, Lc62, X62, hQ62, st62⟩ := own_virtual (y := y_1) X59 hx hZ hown (own_w hw 17 rfl) (own_w hw 18 rfl) (own_w hw 20 rfl) (own_w hw 19 rfl) (own_w hw 3 rfl) (own_w hw 21 rfl) (by decide) (rm60 l Z a0 hw [] w_PROPOSAL_POINTS w_IDENTICAL_TOP_SCORES h52 XX52 F_w_PROPOSAL_POINTS_tied) (by decide) (by decide) e59 (E_w_PROPOSAL_POINTS.ext XX52) (g := (mkF m 60 #[.val (.int p1), .val (.ref b43), .val (.int (1 : Int32)), .val (.ref w_PROPOSAL_POINTS), .val (.int (1 : Int32)), .val (.int (1 : Int32)), .val (.ref w_TOP_OFFEROR), .unset, .unset, .unset, .unset, .unset] [(.int (1 : Int32)), (.ref w_PROPOSAL_POINTS)])) rfl (by rw [hml]; rfl) (argsL := [(.int (1 : Int32))]) (rest := []) (lenOf pd_1 rfl) rfl rfl (W := 0) (by show 2 * 0 + _ ≤ _; exact Nat.le_of_eq rfl) (hb hby at_60) (by decide) (by decide)
  obtain ⟨rfl, N62q, e62⟩ := hQ62
  have N62 := Fr.app N59 N62q
  obtain ⟨_, T65, Lc65, X65, hQ65, st65⟩ := own_virtual (y := y_2) X62 hx hZ hown (own_w hw 29 rfl) (own_w hw 30 rfl) (own_w hw 32 rfl) (own_w hw 31 rfl) (own_w hw 3 rfl) (own_w hw 33 rfl) (by decide) (rm63 l Z a0 hw [] w_PROPOSAL_POINTS w_PROPOSAL_POINTS_code h52 XX52 F_w_PROPOSAL_POINTS_code) (by decide) (by decide) e62 (E_w_PROPOSAL_POINTS.ext XX52) (g := (mkF m 66 #[.val (.int p1), .val (.ref b43), .val (.int (1 : Int32)), .val (.ref w_PROPOSAL_POINTS), .val (.int (1 : Int32)), .val (.int (1 : Int32)), .val (.ref w_TOP_OFFEROR), .val (.ref w_IDENTICAL_TOP_SCORES), .unset, .unset, .unset, .unset] [(.ref w_PROPOSAL_POINTS)])) rfl (by rw [hml]; rfl) (argsL := []) (rest := []) (lenOf pd_2 rfl) rfl rfl (W := 0) (by show 2 * 0 + _ ≤ _; exact Nat.le_of_eq rfl) (hb hby at_66) (by decide) (by decide)
  obtain ⟨rfl, N65q, e65⟩ := hQ65
  have N65 := Fr.app N62 N65q
  obtain ⟨_, T68, Lc68, X68, hQ68, st68⟩ := own_virtual (y := y_3) X65 hx hZ hown (own_w hw 36 rfl) (own_w hw 37 rfl) (own_w hw 39 rfl) (own_w hw 38 rfl) (own_w hw 40 rfl) (own_w hw 41 rfl) (by decide) (rm66 l Z a0 hw [] w_PROPOSAL_POINTS_code w_PROPOSAL_POINTS_code_value cl_w_PROPOSAL_POINTS_code_value h52 XX52 F_w_PROPOSAL_POINTS_code_value Ar_w_PROPOSAL_POINTS_code_value Sz_w_PROPOSAL_POINTS_code_value) (by decide) (by decide) e65 (E_w_PROPOSAL_POINTS_code.ext XX52) (g := (mkF m 73 #[.val (.int p1), .val (.ref b43), .val (.int (1 : Int32)), .val (.ref w_PROPOSAL_POINTS), .val (.int (1 : Int32)), .val (.int (1 : Int32)), .val (.ref w_TOP_OFFEROR), .val (.ref w_IDENTICAL_TOP_SCORES), .val (.ref w_PROPOSAL_POINTS_code), .unset, .unset, .unset] [(.ref w_PROPOSAL_POINTS_code)])) rfl (by rw [hml]; rfl) (argsL := []) (rest := []) (lenOf pd_0 rfl) rfl rfl (W := 0) (by show 2 * 0 + _ ≤ _; exact Nat.le_of_eq rfl) (hb hby at_73) (by decide) (by decide)
  obtain ⟨rfl, N68q, e68⟩ := hQ68
  have N68 := Fr.app N65 N68q
  obtain ⟨_, T82, Lc82, X82, hQ82, st82⟩ := own_virtual (y := y_8) X68 hx hZ hown (own_w hw 44 rfl) (own_w hw 45 rfl) (own_w hw 47 rfl) (own_w hw 46 rfl) (own_w hw 40 rfl) (own_w hw 48 rfl) (by decide) (rm69 l Z a0 hw [] w_PROPOSAL_POINTS_code w_PROPOSAL_POINTS_code_value cl_w_PROPOSAL_POINTS_code_value w_COMPACT_STRINGS w_SIOOBE_FORMATTER h52 XX52 E_w_PROPOSAL_POINTS_code S_w_COMPACT_STRINGS F_w_PROPOSAL_POINTS_code_coder F_w_PROPOSAL_POINTS_code_value Ar_w_PROPOSAL_POINTS_code_value Sz_w_PROPOSAL_POINTS_code_value S_w_SIOOBE_FORMATTER R_w_SIOOBE_FORMATTER hin_w_PROPOSAL_POINTS_code_value_0 hat_w_PROPOSAL_POINTS_code_value_0 hc1) (by decide) (by decide) e68 (E_w_PROPOSAL_POINTS_code.ext XX52) (g := (mkF m 82 #[.val (.int p1), .val (.ref b43), .val (.int (1 : Int32)), .val (.ref w_PROPOSAL_POINTS), .val (.int (1 : Int32)), .val (.int (1 : Int32)), .val (.ref w_TOP_OFFEROR), .val (.ref w_IDENTICAL_TOP_SCORES), .val (.ref w_PROPOSAL_POINTS_code), .unset, .unset, .unset] [(.int (0 : Int32)), (.ref w_PROPOSAL_POINTS_code)])) rfl (by rw [hml]; rfl) (argsL := [(.int (0 : Int32))]) (rest := []) (lenOf pd_6 rfl) rfl rfl (W := 0) (by show 2 * 0 + _ ≤ _; exact Nat.le_of_eq rfl) (hb hby at_82) (by decide) (by decide)
  obtain ⟨rfl, N82q, e82⟩ := hQ82
  have N82 := Fr.app N68 N82q
  obtain ⟨T83, X83, e83, st83⟩ := getS2 X82 hx hZ hown (host := "") (Or.inl (own_w hw 69 rfl)) Via.refl e82 (S_w_TOP_OFFEROR.ext XX52) (g := (mkF m 99 #[.val (.int p1), .val (.ref b43), .val (.int (1 : Int32)), .val (.ref w_PROPOSAL_POINTS), .val (.int (1 : Int32)), .val (.int (1 : Int32)), .val (.ref w_TOP_OFFEROR), .val (.ref w_IDENTICAL_TOP_SCORES), .val (.ref w_PROPOSAL_POINTS_code), .val (.int (1 : Int32)), .unset, .unset] [(.ref w_TOP_OFFEROR)])) rfl (hb hby at_99)
  obtain ⟨T84, X84, e84, st84⟩ := getS2 X83 hx hZ hown (host := "") (Or.inl (own_w hw 71 rfl)) Via.refl e83 (S_w_IDENTICAL_TOP_SCORES.ext XX52) (g := (mkF m 114 #[.val (.int p1), .val (.ref b43), .val (.int (1 : Int32)), .val (.ref w_PROPOSAL_POINTS), .val (.int (1 : Int32)), .val (.int (1 : Int32)), .val (.ref w_TOP_OFFEROR), .val (.ref w_IDENTICAL_TOP_SCORES), .val (.ref w_PROPOSAL_POINTS_code), .val (.int (1 : Int32)), .val (.int (1 : Int32)), .unset] [(.ref w_IDENTICAL_TOP_SCORES)])) rfl (hb hby at_114)
  obtain ⟨fs, hr, hrun, hended, hW, hsame⟩ := X84.leave (v := some (.int (1 : Int32))) (fun h => by rw [hret] at h; cases h) hlk
  refine ⟨_, _, ?_, hrun, hended, _, _, rfl, ?_, ⟨_, rfl⟩, hW, hsame.mono (by decide) (by decide)⟩
  · show own_S p e below s₁ (mkF m 0 #[.val (.int p1), .unset, .unset, .unset, .unset, .unset, .unset, .unset, .unset, .unset, .unset, .unset] []) _
    refine XS.iconst X0.here hx rfl (hb hby at_0) ?_
    show own_S p e below s₁ (mkF m 1 #[.val (.int p1), .unset, .unset, .unset, .unset, .unset, .unset, .unset, .unset, .unset, .unset, .unset] [(.int (3 : Int32))]) _
    refine st43 _ ?_
    show own_S p e below T43 (mkF m 4 #[.val (.int p1), .unset, .unset, .unset, .unset, .unset, .unset, .unset, .unset, .unset, .unset, .unset] [(.ref b43)]) _
    refine XS.dup X43.here hx rfl (hb hby at_4) rfl rfl ?_
    show own_S p e below T43 (mkF m 5 #[.val (.int p1), .unset, .unset, .unset, .unset, .unset, .unset, .unset, .unset, .unset, .unset, .unset] [(.ref b43), (.ref b43)]) _
    refine XS.iconst X43.here hx rfl (hb hby at_5) ?_
    show own_S p e below T43 (mkF m 6 #[.val (.int p1), .unset, .unset, .unset, .unset, .unset, .unset, .unset, .unset, .unset, .unset, .unset] [(.int (0 : Int32)), (.ref b43), (.ref b43)]) _
    refine st44 _ ?_
    show own_S p e below T44 (mkF m 9 #[.val (.int p1), .unset, .unset, .unset, .unset, .unset, .unset, .unset, .unset, .unset, .unset, .unset] [(.ref w_BID), (.int (0 : Int32)), (.ref b43), (.ref b43)]) _
    refine st46 _ ?_
    show own_S p e below T46 (mkF m 10 #[.val (.int p1), .unset, .unset, .unset, .unset, .unset, .unset, .unset, .unset, .unset, .unset, .unset] [(.ref b43)]) _
    refine XS.dup X46.here hx rfl (hb hby at_10) rfl rfl ?_
    show own_S p e below T46 (mkF m 11 #[.val (.int p1), .unset, .unset, .unset, .unset, .unset, .unset, .unset, .unset, .unset, .unset, .unset] [(.ref b43), (.ref b43)]) _
    refine XS.iconst X46.here hx rfl (hb hby at_11) ?_
    show own_S p e below T46 (mkF m 12 #[.val (.int p1), .unset, .unset, .unset, .unset, .unset, .unset, .unset, .unset, .unset, .unset, .unset] [(.int (1 : Int32)), (.ref b43), (.ref b43)]) _
    refine st47 _ ?_
    show own_S p e below T47 (mkF m 15 #[.val (.int p1), .unset, .unset, .unset, .unset, .unset, .unset, .unset, .unset, .unset, .unset, .unset] [(.ref w_PROPOSAL_POINTS), (.int (1 : Int32)), (.ref b43), (.ref b43)]) _
    refine st49 _ ?_
    show own_S p e below T49 (mkF m 16 #[.val (.int p1), .unset, .unset, .unset, .unset, .unset, .unset, .unset, .unset, .unset, .unset, .unset] [(.ref b43)]) _
    refine XS.dup X49.here hx rfl (hb hby at_16) rfl rfl ?_
    show own_S p e below T49 (mkF m 17 #[.val (.int p1), .unset, .unset, .unset, .unset, .unset, .unset, .unset, .unset, .unset, .unset, .unset] [(.ref b43), (.ref b43)]) _
    refine XS.iconst X49.here hx rfl (hb hby at_17) ?_
    show own_S p e below T49 (mkF m 18 #[.val (.int p1), .unset, .unset, .unset, .unset, .unset, .unset, .unset, .unset, .unset, .unset, .unset] [(.int (2 : Int32)), (.ref b43), (.ref b43)]) _
    refine st50 _ ?_
    show own_S p e below T50 (mkF m 21 #[.val (.int p1), .unset, .unset, .unset, .unset, .unset, .unset, .unset, .unset, .unset, .unset, .unset] [(.ref w_PROPOSAL_WEIGHTS), (.int (2 : Int32)), (.ref b43), (.ref b43)]) _
    refine st52 _ ?_
    show own_S p e below T52 (mkF m 22 #[.val (.int p1), .unset, .unset, .unset, .unset, .unset, .unset, .unset, .unset, .unset, .unset, .unset] [(.ref b43)]) _
    refine XS.astoreN X52.here hx rfl (hb hby at_22) rfl rfl (l' := #[.val (.int p1), .val (.ref b43), .unset, .unset, .unset, .unset, .unset, .unset, .unset, .unset, .unset, .unset]) rfl ?_
    show own_S p e below T52 (mkF m 23 #[.val (.int p1), .val (.ref b43), .unset, .unset, .unset, .unset, .unset, .unset, .unset, .unset, .unset, .unset] []) _
    refine XS.iloadN X52.here hx rfl (hb hby at_23) rfl ?_
    show own_S p e below T52 (mkF m 24 #[.val (.int p1), .val (.ref b43), .unset, .unset, .unset, .unset, .unset, .unset, .unset, .unset, .unset, .unset] [(.int p1)]) _
    refine X52.ldcInt hx hown (mvT hZ (own_w hw 10 rfl)) (g := (mkF m 24 #[.val (.int p1), .val (.ref b43), .unset, .unset, .unset, .unset, .unset, .unset, .unset, .unset, .unset, .unset] [(.int p1)])) rfl (hb hby at_24) _ ?_
    show own_S p e below T52 (mkF m 26 #[.val (.int p1), .val (.ref b43), .unset, .unset, .unset, .unset, .unset, .unset, .unset, .unset, .unset, .unset] [(.int (2147483647 : Int32)), (.int p1)]) _
    refine XS.iand X52.here hx rfl (hb hby at_26) rfl ?_
    show own_S p e below T52 (mkF m 27 #[.val (.int p1), .val (.ref b43), .unset, .unset, .unset, .unset, .unset, .unset, .unset, .unset, .unset, .unset] [(.int (p1 &&& (2147483647 : Int32)))]) _
    refine XS.iconst X52.here hx rfl (hb hby at_27) ?_
    show own_S p e below T52 (mkF m 28 #[.val (.int p1), .val (.ref b43), .unset, .unset, .unset, .unset, .unset, .unset, .unset, .unset, .unset, .unset] [(.int (3 : Int32)), (.int (p1 &&& (2147483647 : Int32)))]) _
    refine iremM X52 hx rfl (hb hby at_28) rfl (by decide) ?_
    show own_S p e below T52 (mkF m 29 #[.val (.int p1), .val (.ref b43), .unset, .unset, .unset, .unset, .unset, .unset, .unset, .unset, .unset, .unset] [(.int ((p1 &&& (2147483647 : Int32)) % (3 : Int32)))]) _
    rw [hc5]
    show own_S p e below T52 (mkF m 29 #[.val (.int p1), .val (.ref b43), .unset, .unset, .unset, .unset, .unset, .unset, .unset, .unset, .unset, .unset] [(.int (1 : Int32))]) _
    refine XS.istoreN X52.here hx rfl (hb hby at_29) rfl (l' := #[.val (.int p1), .val (.ref b43), .val (.int (1 : Int32)), .unset, .unset, .unset, .unset, .unset, .unset, .unset, .unset, .unset]) rfl ?_
    show own_S p e below T52 (mkF m 30 #[.val (.int p1), .val (.ref b43), .val (.int (1 : Int32)), .unset, .unset, .unset, .unset, .unset, .unset, .unset, .unset, .unset] []) _
    refine XS.aloadN X52.here hx rfl (hb hby at_30) rfl rfl ?_
    show own_S p e below T52 (mkF m 31 #[.val (.int p1), .val (.ref b43), .val (.int (1 : Int32)), .unset, .unset, .unset, .unset, .unset, .unset, .unset, .unset, .unset] [(.ref b43)]) _
    refine XS.iloadN X52.here hx rfl (hb hby at_31) rfl ?_
    show own_S p e below T52 (mkF m 32 #[.val (.int p1), .val (.ref b43), .val (.int (1 : Int32)), .unset, .unset, .unset, .unset, .unset, .unset, .unset, .unset, .unset] [(.int (1 : Int32)), (.ref b43)]) _
    refine X52.aaload hx (j := (1 : Int32)) (v := (.ref w_PROPOSAL_POINTS)) (by rw [e52]; exact Ar53.1) (State.isArrayOf_alike hZ.alike Ar53.2.1) rfl Ar53.2.2 hin53 hat53 (g := (mkF m 32 #[.val (.int p1), .val (.ref b43), .val (.int (1 : Int32)), .unset, .unset, .unset, .unset, .unset, .unset, .unset, .unset, .unset] [(.int (1 : Int32)), (.ref b43)])) rfl rfl (hb hby at_32) _ ?_
    show own_S p e below T52 (mkF m 33 #[.val (.int p1), .val (.ref b43), .val (.int (1 : Int32)), .unset, .unset, .unset, .unset, .unset, .unset, .unset, .unset, .unset] [(.ref w_PROPOSAL_POINTS)]) _
    refine XS.astoreN X52.here hx rfl (hb hby at_33) rfl rfl (l' := #[.val (.int p1), .val (.ref b43), .val (.int (1 : Int32)), .val (.ref w_PROPOSAL_POINTS), .unset, .unset, .unset, .unset, .unset, .unset, .unset, .unset]) rfl ?_
    show own_S p e below T52 (mkF m 34 #[.val (.int p1), .val (.ref b43), .val (.int (1 : Int32)), .val (.ref w_PROPOSAL_POINTS), .unset, .unset, .unset, .unset, .unset, .unset, .unset, .unset] []) _
    refine XS.aloadN X52.here hx rfl (hb hby at_34) rfl rfl ?_
    show own_S p e below T52 (mkF m 35 #[.val (.int p1), .val (.ref b43), .val (.int (1 : Int32)), .val (.ref w_PROPOSAL_POINTS), .unset, .unset, .unset, .unset, .unset, .unset, .unset, .unset] [(.ref w_PROPOSAL_POINTS)]) _
    refine st56 _ ?_
    show own_S p e below T56 (mkF m 38 #[.val (.int p1), .val (.ref b43), .val (.int (1 : Int32)), .val (.ref w_PROPOSAL_POINTS), .unset, .unset, .unset, .unset, .unset, .unset, .unset, .unset] [(.int (1 : Int32))]) _
    refine XS.istore X56.here hx rfl (hb hby at_38) rfl (l' := #[.val (.int p1), .val (.ref b43), .val (.int (1 : Int32)), .val (.ref w_PROPOSAL_POINTS), .val (.int (1 : Int32)), .unset, .unset, .unset, .unset, .unset, .unset, .unset]) rfl ?_
    show own_S p e below T56 (mkF m 40 #[.val (.int p1), .val (.ref b43), .val (.int (1 : Int32)), .val (.ref w_PROPOSAL_POINTS), .val (.int (1 : Int32)), .unset, .unset, .unset, .unset, .unset, .unset, .unset] []) _
    refine XS.iloadN X56.here hx rfl (hb hby at_40) rfl ?_
    show own_S p e below T56 (mkF m 41 #[.val (.int p1), .val (.ref b43), .val (.int (1 : Int32)), .val (.ref w_PROPOSAL_POINTS), .val (.int (1 : Int32)), .unset, .unset, .unset, .unset, .unset, .unset, .unset] [(.int (1 : Int32))]) _
    refine XS.ifNo X56.here hx rfl (hb hby at_41) rfl ((if0 _ _).trans (feq (by decide : ¬ ((1 : Int32) = (0 : Int32)))).1) ?_
    show own_S p e below T56 (mkF m 44 #[.val (.int p1), .val (.ref b43), .val (.int (1 : Int32)), .val (.ref w_PROPOSAL_POINTS), .val (.int (1 : Int32)), .unset, .unset, .unset, .unset, .unset, .unset, .unset] []) _
    refine XS.iconst X56.here hx rfl (hb hby at_44) ?_
    show own_S p e below T56 (mkF m 45 #[.val (.int p1), .val (.ref b43), .val (.int (1 : Int32)), .val (.ref w_PROPOSAL_POINTS), .val (.int (1 : Int32)), .unset, .unset, .unset, .unset, .unset, .unset, .unset] [(.int (1 : Int32))]) _
    refine XS.goto X56.here hx rfl (pc0 := 45) (pc' := 49) rfl (hb hby at_45) (by decide) (by decide) ?_
    show own_S p e below T56 (mkF m 49 #[.val (.int p1), .val (.ref b43), .val (.int (1 : Int32)), .val (.ref w_PROPOSAL_POINTS), .val (.int (1 : Int32)), .unset, .unset, .unset, .unset, .unset, .unset, .unset] [(.int (1 : Int32))]) _
    refine XS.istore X56.here hx rfl (hb hby at_49) rfl (l' := #[.val (.int p1), .val (.ref b43), .val (.int (1 : Int32)), .val (.ref w_PROPOSAL_POINTS), .val (.int (1 : Int32)), .val (.int (1 : Int32)), .unset, .unset, .unset, .unset, .unset, .unset]) rfl ?_
    show own_S p e below T56 (mkF m 51 #[.val (.int p1), .val (.ref b43), .val (.int (1 : Int32)), .val (.ref w_PROPOSAL_POINTS), .val (.int (1 : Int32)), .val (.int (1 : Int32)), .unset, .unset, .unset, .unset, .unset, .unset] []) _
    refine XS.aloadN X56.here hx rfl (hb hby at_51) rfl rfl ?_
    show own_S p e below T56 (mkF m 52 #[.val (.int p1), .val (.ref b43), .val (.int (1 : Int32)), .val (.ref w_PROPOSAL_POINTS), .val (.int (1 : Int32)), .val (.int (1 : Int32)), .unset, .unset, .unset, .unset, .unset, .unset] [(.ref w_PROPOSAL_POINTS)]) _
    refine XS.iconst X56.here hx rfl (hb hby at_52) ?_
    show own_S p e below T56 (mkF m 53 #[.val (.int p1), .val (.ref b43), .val (.int (1 : Int32)), .val (.ref w_PROPOSAL_POINTS), .val (.int (1 : Int32)), .val (.int (1 : Int32)), .unset, .unset, .unset, .unset, .unset, .unset] [(.int (0 : Int32)), (.ref w_PROPOSAL_POINTS)]) _
    refine st59 _ ?_
    show own_S p e below T59 (mkF m 56 #[.val (.int p1), .val (.ref b43), .val (.int (1 : Int32)), .val (.ref w_PROPOSAL_POINTS), .val (.int (1 : Int32)), .val (.int (1 : Int32)), .unset, .unset, .unset, .unset, .unset, .unset] [(.ref w_TOP_OFFEROR)]) _
    refine XS.astore X59.here hx rfl (hb hby at_56) rfl rfl (l' := #[.val (.int p1), .val (.ref b43), .val (.int (1 : Int32)), .val (.ref w_PROPOSAL_POINTS), .val (.int (1 : Int32)), .val (.int (1 : Int32)), .val (.ref w_TOP_OFFEROR), .unset, .unset, .unset, .unset, .unset]) rfl ?_
    show own_S p e below T59 (mkF m 58 #[.val (.int p1), .val (.ref b43), .val (.int (1 : Int32)), .val (.ref w_PROPOSAL_POINTS), .val (.int (1 : Int32)), .val (.int (1 : Int32)), .val (.ref w_TOP_OFFEROR), .unset, .unset, .unset, .unset, .unset] []) _
    refine XS.aloadN X59.here hx rfl (hb hby at_58) rfl rfl ?_
    show own_S p e below T59 (mkF m 59 #[.val (.int p1), .val (.ref b43), .val (.int (1 : Int32)), .val (.ref w_PROPOSAL_POINTS), .val (.int (1 : Int32)), .val (.int (1 : Int32)), .val (.ref w_TOP_OFFEROR), .unset, .unset, .unset, .unset, .unset] [(.ref w_PROPOSAL_POINTS)]) _
    refine XS.iconst X59.here hx rfl (hb hby at_59) ?_
    show own_S p e below T59 (mkF m 60 #[.val (.int p1), .val (.ref b43), .val (.int (1 : Int32)), .val (.ref w_PROPOSAL_POINTS), .val (.int (1 : Int32)), .val (.int (1 : Int32)), .val (.ref w_TOP_OFFEROR), .unset, .unset, .unset, .unset, .unset] [(.int (1 : Int32)), (.ref w_PROPOSAL_POINTS)]) _
    refine st62 _ ?_
    show own_S p e below T62 (mkF m 63 #[.val (.int p1), .val (.ref b43), .val (.int (1 : Int32)), .val (.ref w_PROPOSAL_POINTS), .val (.int (1 : Int32)), .val (.int (1 : Int32)), .val (.ref w_TOP_OFFEROR), .unset, .unset, .unset, .unset, .unset] [(.ref w_IDENTICAL_TOP_SCORES)]) _
    refine XS.astore X62.here hx rfl (hb hby at_63) rfl rfl (l' := #[.val (.int p1), .val (.ref b43), .val (.int (1 : Int32)), .val (.ref w_PROPOSAL_POINTS), .val (.int (1 : Int32)), .val (.int (1 : Int32)), .val (.ref w_TOP_OFFEROR), .val (.ref w_IDENTICAL_TOP_SCORES), .unset, .unset, .unset, .unset]) rfl ?_
    show own_S p e below T62 (mkF m 65 #[.val (.int p1), .val (.ref b43), .val (.int (1 : Int32)), .val (.ref w_PROPOSAL_POINTS), .val (.int (1 : Int32)), .val (.int (1 : Int32)), .val (.ref w_TOP_OFFEROR), .val (.ref w_IDENTICAL_TOP_SCORES), .unset, .unset, .unset, .unset] []) _
    refine XS.aloadN X62.here hx rfl (hb hby at_65) rfl rfl ?_
    show own_S p e below T62 (mkF m 66 #[.val (.int p1), .val (.ref b43), .val (.int (1 : Int32)), .val (.ref w_PROPOSAL_POINTS), .val (.int (1 : Int32)), .val (.int (1 : Int32)), .val (.ref w_TOP_OFFEROR), .val (.ref w_IDENTICAL_TOP_SCORES), .unset, .unset, .unset, .unset] [(.ref w_PROPOSAL_POINTS)]) _
    refine st65 _ ?_
    show own_S p e below T65 (mkF m 69 #[.val (.int p1), .val (.ref b43), .val (.int (1 : Int32)), .val (.ref w_PROPOSAL_POINTS), .val (.int (1 : Int32)), .val (.int (1 : Int32)), .val (.ref w_TOP_OFFEROR), .val (.ref w_IDENTICAL_TOP_SCORES), .unset, .unset, .unset, .unset] [(.ref w_PROPOSAL_POINTS_code)]) _
    refine XS.astore X65.here hx rfl (hb hby at_69) rfl rfl (l' := #[.val (.int p1), .val (.ref b43), .val (.int (1 : Int32)), .val (.ref w_PROPOSAL_POINTS), .val (.int (1 : Int32)), .val (.int (1 : Int32)), .val (.ref w_TOP_OFFEROR), .val (.ref w_IDENTICAL_TOP_SCORES), .val (.ref w_PROPOSAL_POINTS_code), .unset, .unset, .unset]) rfl ?_
    show own_S p e below T65 (mkF m 71 #[.val (.int p1), .val (.ref b43), .val (.int (1 : Int32)), .val (.ref w_PROPOSAL_POINTS), .val (.int (1 : Int32)), .val (.int (1 : Int32)), .val (.ref w_TOP_OFFEROR), .val (.ref w_IDENTICAL_TOP_SCORES), .val (.ref w_PROPOSAL_POINTS_code), .unset, .unset, .unset] []) _
    refine XS.aload X65.here hx rfl (hb hby at_71) rfl rfl ?_
    show own_S p e below T65 (mkF m 73 #[.val (.int p1), .val (.ref b43), .val (.int (1 : Int32)), .val (.ref w_PROPOSAL_POINTS), .val (.int (1 : Int32)), .val (.int (1 : Int32)), .val (.ref w_TOP_OFFEROR), .val (.ref w_IDENTICAL_TOP_SCORES), .val (.ref w_PROPOSAL_POINTS_code), .unset, .unset, .unset] [(.ref w_PROPOSAL_POINTS_code)]) _
    refine st68 _ ?_
    show own_S p e below T68 (mkF m 76 #[.val (.int p1), .val (.ref b43), .val (.int (1 : Int32)), .val (.ref w_PROPOSAL_POINTS), .val (.int (1 : Int32)), .val (.int (1 : Int32)), .val (.ref w_TOP_OFFEROR), .val (.ref w_IDENTICAL_TOP_SCORES), .val (.ref w_PROPOSAL_POINTS_code), .unset, .unset, .unset] [(.int (0 : Int32))]) _
    refine XS.ifNo X68.here hx rfl (hb hby at_76) rfl ((if0 _ _).trans (teq (rfl : (0 : Int32) = (0 : Int32))).2) ?_
    show own_S p e below T68 (mkF m 79 #[.val (.int p1), .val (.ref b43), .val (.int (1 : Int32)), .val (.ref w_PROPOSAL_POINTS), .val (.int (1 : Int32)), .val (.int (1 : Int32)), .val (.ref w_TOP_OFFEROR), .val (.ref w_IDENTICAL_TOP_SCORES), .val (.ref w_PROPOSAL_POINTS_code), .unset, .unset, .unset] []) _
    refine XS.aload X68.here hx rfl (hb hby at_79) rfl rfl ?_
    show own_S p e below T68 (mkF m 81 #[.val (.int p1), .val (.ref b43), .val (.int (1 : Int32)), .val (.ref w_PROPOSAL_POINTS), .val (.int (1 : Int32)), .val (.int (1 : Int32)), .val (.ref w_TOP_OFFEROR), .val (.ref w_IDENTICAL_TOP_SCORES), .val (.ref w_PROPOSAL_POINTS_code), .unset, .unset, .unset] [(.ref w_PROPOSAL_POINTS_code)]) _
    refine XS.iconst X68.here hx rfl (hb hby at_81) ?_
    show own_S p e below T68 (mkF m 82 #[.val (.int p1), .val (.ref b43), .val (.int (1 : Int32)), .val (.ref w_PROPOSAL_POINTS), .val (.int (1 : Int32)), .val (.int (1 : Int32)), .val (.ref w_TOP_OFFEROR), .val (.ref w_IDENTICAL_TOP_SCORES), .val (.ref w_PROPOSAL_POINTS_code), .unset, .unset, .unset] [(.int (0 : Int32)), (.ref w_PROPOSAL_POINTS_code)]) _
    refine st82 _ ?_
    show own_S p e below T82 (mkF m 85 #[.val (.int p1), .val (.ref b43), .val (.int (1 : Int32)), .val (.ref w_PROPOSAL_POINTS), .val (.int (1 : Int32)), .val (.int (1 : Int32)), .val (.ref w_TOP_OFFEROR), .val (.ref w_IDENTICAL_TOP_SCORES), .val (.ref w_PROPOSAL_POINTS_code), .unset, .unset, .unset] [(.int (112 : Int32))]) _
    refine XS.bipush X82.here hx rfl (hb hby at_85) ?_
    show own_S p e below T82 (mkF m 87 #[.val (.int p1), .val (.ref b43), .val (.int (1 : Int32)), .val (.ref w_PROPOSAL_POINTS), .val (.int (1 : Int32)), .val (.int (1 : Int32)), .val (.ref w_TOP_OFFEROR), .val (.ref w_IDENTICAL_TOP_SCORES), .val (.ref w_PROPOSAL_POINTS_code), .unset, .unset, .unset] [(.int (112 : Int32)), (.int (112 : Int32))]) _
    refine XS.icmpNo X82.here hx rfl (hb hby at_87) rfl (teq (rfl : (112 : Int32) = (112 : Int32))).2 ?_
    show own_S p e below T82 (mkF m 90 #[.val (.int p1), .val (.ref b43), .val (.int (1 : Int32)), .val (.ref w_PROPOSAL_POINTS), .val (.int (1 : Int32)), .val (.int (1 : Int32)), .val (.ref w_TOP_OFFEROR), .val (.ref w_IDENTICAL_TOP_SCORES), .val (.ref w_PROPOSAL_POINTS_code), .unset, .unset, .unset] []) _
    refine XS.iconst X82.here hx rfl (hb hby at_90) ?_
    show own_S p e below T82 (mkF m 91 #[.val (.int p1), .val (.ref b43), .val (.int (1 : Int32)), .val (.ref w_PROPOSAL_POINTS), .val (.int (1 : Int32)), .val (.int (1 : Int32)), .val (.ref w_TOP_OFFEROR), .val (.ref w_IDENTICAL_TOP_SCORES), .val (.ref w_PROPOSAL_POINTS_code), .unset, .unset, .unset] [(.int (1 : Int32))]) _
    refine XS.goto X82.here hx rfl (pc0 := 91) (pc' := 95) rfl (hb hby at_91) (by decide) (by decide) ?_
    show own_S p e below T82 (mkF m 95 #[.val (.int p1), .val (.ref b43), .val (.int (1 : Int32)), .val (.ref w_PROPOSAL_POINTS), .val (.int (1 : Int32)), .val (.int (1 : Int32)), .val (.ref w_TOP_OFFEROR), .val (.ref w_IDENTICAL_TOP_SCORES), .val (.ref w_PROPOSAL_POINTS_code), .unset, .unset, .unset] [(.int (1 : Int32))]) _
    refine XS.istore X82.here hx rfl (hb hby at_95) rfl (l' := #[.val (.int p1), .val (.ref b43), .val (.int (1 : Int32)), .val (.ref w_PROPOSAL_POINTS), .val (.int (1 : Int32)), .val (.int (1 : Int32)), .val (.ref w_TOP_OFFEROR), .val (.ref w_IDENTICAL_TOP_SCORES), .val (.ref w_PROPOSAL_POINTS_code), .val (.int (1 : Int32)), .unset, .unset]) rfl ?_
    show own_S p e below T82 (mkF m 97 #[.val (.int p1), .val (.ref b43), .val (.int (1 : Int32)), .val (.ref w_PROPOSAL_POINTS), .val (.int (1 : Int32)), .val (.int (1 : Int32)), .val (.ref w_TOP_OFFEROR), .val (.ref w_IDENTICAL_TOP_SCORES), .val (.ref w_PROPOSAL_POINTS_code), .val (.int (1 : Int32)), .unset, .unset] []) _
    refine XS.aload X82.here hx rfl (hb hby at_97) rfl rfl ?_
    show own_S p e below T82 (mkF m 99 #[.val (.int p1), .val (.ref b43), .val (.int (1 : Int32)), .val (.ref w_PROPOSAL_POINTS), .val (.int (1 : Int32)), .val (.int (1 : Int32)), .val (.ref w_TOP_OFFEROR), .val (.ref w_IDENTICAL_TOP_SCORES), .val (.ref w_PROPOSAL_POINTS_code), .val (.int (1 : Int32)), .unset, .unset] [(.ref w_TOP_OFFEROR)]) _
    refine st83 _ ?_
    show own_S p e below T83 (mkF m 102 #[.val (.int p1), .val (.ref b43), .val (.int (1 : Int32)), .val (.ref w_PROPOSAL_POINTS), .val (.int (1 : Int32)), .val (.int (1 : Int32)), .val (.ref w_TOP_OFFEROR), .val (.ref w_IDENTICAL_TOP_SCORES), .val (.ref w_PROPOSAL_POINTS_code), .val (.int (1 : Int32)), .unset, .unset] [(.ref w_TOP_OFFEROR), (.ref w_TOP_OFFEROR)]) _
    refine Jvm.RoadKit.acmp (g := (mkF m 102 #[.val (.int p1), .val (.ref b43), .val (.int (1 : Int32)), .val (.ref w_PROPOSAL_POINTS), .val (.int (1 : Int32)), .val (.int (1 : Int32)), .val (.ref w_TOP_OFFEROR), .val (.ref w_IDENTICAL_TOP_SCORES), .val (.ref w_PROPOSAL_POINTS_code), .val (.int (1 : Int32)), .unset, .unset] [(.ref w_TOP_OFFEROR), (.ref w_TOP_OFFEROR)])) X83 hx rfl rfl rfl (pc0 := 102) (pc' := 105) (same := true) rfl (hb hby at_102) rfl (decide_eq_true rfl) (by decide) (by decide) ?_
    show own_S p e below T83 (mkF m 105 #[.val (.int p1), .val (.ref b43), .val (.int (1 : Int32)), .val (.ref w_PROPOSAL_POINTS), .val (.int (1 : Int32)), .val (.int (1 : Int32)), .val (.ref w_TOP_OFFEROR), .val (.ref w_IDENTICAL_TOP_SCORES), .val (.ref w_PROPOSAL_POINTS_code), .val (.int (1 : Int32)), .unset, .unset] []) _
    refine XS.iconst X83.here hx rfl (hb hby at_105) ?_
    show own_S p e below T83 (mkF m 106 #[.val (.int p1), .val (.ref b43), .val (.int (1 : Int32)), .val (.ref w_PROPOSAL_POINTS), .val (.int (1 : Int32)), .val (.int (1 : Int32)), .val (.ref w_TOP_OFFEROR), .val (.ref w_IDENTICAL_TOP_SCORES), .val (.ref w_PROPOSAL_POINTS_code), .val (.int (1 : Int32)), .unset, .unset] [(.int (1 : Int32))]) _
    refine XS.goto X83.here hx rfl (pc0 := 106) (pc' := 110) rfl (hb hby at_106) (by decide) (by decide) ?_
    show own_S p e below T83 (mkF m 110 #[.val (.int p1), .val (.ref b43), .val (.int (1 : Int32)), .val (.ref w_PROPOSAL_POINTS), .val (.int (1 : Int32)), .val (.int (1 : Int32)), .val (.ref w_TOP_OFFEROR), .val (.ref w_IDENTICAL_TOP_SCORES), .val (.ref w_PROPOSAL_POINTS_code), .val (.int (1 : Int32)), .unset, .unset] [(.int (1 : Int32))]) _
    refine XS.istore X83.here hx rfl (hb hby at_110) rfl (l' := #[.val (.int p1), .val (.ref b43), .val (.int (1 : Int32)), .val (.ref w_PROPOSAL_POINTS), .val (.int (1 : Int32)), .val (.int (1 : Int32)), .val (.ref w_TOP_OFFEROR), .val (.ref w_IDENTICAL_TOP_SCORES), .val (.ref w_PROPOSAL_POINTS_code), .val (.int (1 : Int32)), .val (.int (1 : Int32)), .unset]) rfl ?_
    show own_S p e below T83 (mkF m 112 #[.val (.int p1), .val (.ref b43), .val (.int (1 : Int32)), .val (.ref w_PROPOSAL_POINTS), .val (.int (1 : Int32)), .val (.int (1 : Int32)), .val (.ref w_TOP_OFFEROR), .val (.ref w_IDENTICAL_TOP_SCORES), .val (.ref w_PROPOSAL_POINTS_code), .val (.int (1 : Int32)), .val (.int (1 : Int32)), .unset] []) _
    refine XS.aload X83.here hx rfl (hb hby at_112) rfl rfl ?_
    show own_S p e below T83 (mkF m 114 #[.val (.int p1), .val (.ref b43), .val (.int (1 : Int32)), .val (.ref w_PROPOSAL_POINTS), .val (.int (1 : Int32)), .val (.int (1 : Int32)), .val (.ref w_TOP_OFFEROR), .val (.ref w_IDENTICAL_TOP_SCORES), .val (.ref w_PROPOSAL_POINTS_code), .val (.int (1 : Int32)), .val (.int (1 : Int32)), .unset] [(.ref w_IDENTICAL_TOP_SCORES)]) _
    refine st84 _ ?_
    show own_S p e below T84 (mkF m 117 #[.val (.int p1), .val (.ref b43), .val (.int (1 : Int32)), .val (.ref w_PROPOSAL_POINTS), .val (.int (1 : Int32)), .val (.int (1 : Int32)), .val (.ref w_TOP_OFFEROR), .val (.ref w_IDENTICAL_TOP_SCORES), .val (.ref w_PROPOSAL_POINTS_code), .val (.int (1 : Int32)), .val (.int (1 : Int32)), .unset] [(.ref w_IDENTICAL_TOP_SCORES), (.ref w_IDENTICAL_TOP_SCORES)]) _
    refine Jvm.RoadKit.acmp (g := (mkF m 117 #[.val (.int p1), .val (.ref b43), .val (.int (1 : Int32)), .val (.ref w_PROPOSAL_POINTS), .val (.int (1 : Int32)), .val (.int (1 : Int32)), .val (.ref w_TOP_OFFEROR), .val (.ref w_IDENTICAL_TOP_SCORES), .val (.ref w_PROPOSAL_POINTS_code), .val (.int (1 : Int32)), .val (.int (1 : Int32)), .unset] [(.ref w_IDENTICAL_TOP_SCORES), (.ref w_IDENTICAL_TOP_SCORES)])) X84 hx rfl rfl rfl (pc0 := 117) (pc' := 120) (same := true) rfl (hb hby at_117) rfl (decide_eq_true rfl) (by decide) (by decide) ?_
    show own_S p e below T84 (mkF m 120 #[.val (.int p1), .val (.ref b43), .val (.int (1 : Int32)), .val (.ref w_PROPOSAL_POINTS), .val (.int (1 : Int32)), .val (.int (1 : Int32)), .val (.ref w_TOP_OFFEROR), .val (.ref w_IDENTICAL_TOP_SCORES), .val (.ref w_PROPOSAL_POINTS_code), .val (.int (1 : Int32)), .val (.int (1 : Int32)), .unset] []) _
    refine XS.iconst X84.here hx rfl (hb hby at_120) ?_
    show own_S p e below T84 (mkF m 121 #[.val (.int p1), .val (.ref b43), .val (.int (1 : Int32)), .val (.ref w_PROPOSAL_POINTS), .val (.int (1 : Int32)), .val (.int (1 : Int32)), .val (.ref w_TOP_OFFEROR), .val (.ref w_IDENTICAL_TOP_SCORES), .val (.ref w_PROPOSAL_POINTS_code), .val (.int (1 : Int32)), .val (.int (1 : Int32)), .unset] [(.int (1 : Int32))]) _
    refine XS.goto X84.here hx rfl (pc0 := 121) (pc' := 125) rfl (hb hby at_121) (by decide) (by decide) ?_
    show own_S p e below T84 (mkF m 125 #[.val (.int p1), .val (.ref b43), .val (.int (1 : Int32)), .val (.ref w_PROPOSAL_POINTS), .val (.int (1 : Int32)), .val (.int (1 : Int32)), .val (.ref w_TOP_OFFEROR), .val (.ref w_IDENTICAL_TOP_SCORES), .val (.ref w_PROPOSAL_POINTS_code), .val (.int (1 : Int32)), .val (.int (1 : Int32)), .unset] [(.int (1 : Int32))]) _
    refine XS.istore X84.here hx rfl (hb hby at_125) rfl (l' := #[.val (.int p1), .val (.ref b43), .val (.int (1 : Int32)), .val (.ref w_PROPOSAL_POINTS), .val (.int (1 : Int32)), .val (.int (1 : Int32)), .val (.ref w_TOP_OFFEROR), .val (.ref w_IDENTICAL_TOP_SCORES), .val (.ref w_PROPOSAL_POINTS_code), .val (.int (1 : Int32)), .val (.int (1 : Int32)), .val (.int (1 : Int32))]) rfl ?_
    show own_S p e below T84 (mkF m 127 #[.val (.int p1), .val (.ref b43), .val (.int (1 : Int32)), .val (.ref w_PROPOSAL_POINTS), .val (.int (1 : Int32)), .val (.int (1 : Int32)), .val (.ref w_TOP_OFFEROR), .val (.ref w_IDENTICAL_TOP_SCORES), .val (.ref w_PROPOSAL_POINTS_code), .val (.int (1 : Int32)), .val (.int (1 : Int32)), .val (.int (1 : Int32))] []) _
    refine XS.iload X84.here hx rfl (hb hby at_127) rfl ?_
    show own_S p e below T84 (mkF m 129 #[.val (.int p1), .val (.ref b43), .val (.int (1 : Int32)), .val (.ref w_PROPOSAL_POINTS), .val (.int (1 : Int32)), .val (.int (1 : Int32)), .val (.ref w_TOP_OFFEROR), .val (.ref w_IDENTICAL_TOP_SCORES), .val (.ref w_PROPOSAL_POINTS_code), .val (.int (1 : Int32)), .val (.int (1 : Int32)), .val (.int (1 : Int32))] [(.int (1 : Int32))]) _
    refine XS.iload X84.here hx rfl (hb hby at_129) rfl ?_
    show own_S p e below T84 (mkF m 131 #[.val (.int p1), .val (.ref b43), .val (.int (1 : Int32)), .val (.ref w_PROPOSAL_POINTS), .val (.int (1 : Int32)), .val (.int (1 : Int32)), .val (.ref w_TOP_OFFEROR), .val (.ref w_IDENTICAL_TOP_SCORES), .val (.ref w_PROPOSAL_POINTS_code), .val (.int (1 : Int32)), .val (.int (1 : Int32)), .val (.int (1 : Int32))] [(.int (1 : Int32)), (.int (1 : Int32))]) _
    refine XS.icmpNo X84.here hx rfl (hb hby at_131) rfl (teq (rfl : (1 : Int32) = (1 : Int32))).2 ?_
    show own_S p e below T84 (mkF m 134 #[.val (.int p1), .val (.ref b43), .val (.int (1 : Int32)), .val (.ref w_PROPOSAL_POINTS), .val (.int (1 : Int32)), .val (.int (1 : Int32)), .val (.ref w_TOP_OFFEROR), .val (.ref w_IDENTICAL_TOP_SCORES), .val (.ref w_PROPOSAL_POINTS_code), .val (.int (1 : Int32)), .val (.int (1 : Int32)), .val (.int (1 : Int32))] []) _
    refine XS.iload X84.here hx rfl (hb hby at_134) rfl ?_
    show own_S p e below T84 (mkF m 136 #[.val (.int p1), .val (.ref b43), .val (.int (1 : Int32)), .val (.ref w_PROPOSAL_POINTS), .val (.int (1 : Int32)), .val (.int (1 : Int32)), .val (.ref w_TOP_OFFEROR), .val (.ref w_IDENTICAL_TOP_SCORES), .val (.ref w_PROPOSAL_POINTS_code), .val (.int (1 : Int32)), .val (.int (1 : Int32)), .val (.int (1 : Int32))] [(.int (1 : Int32))]) _
    refine XS.iload X84.here hx rfl (hb hby at_136) rfl ?_
    show own_S p e below T84 (mkF m 138 #[.val (.int p1), .val (.ref b43), .val (.int (1 : Int32)), .val (.ref w_PROPOSAL_POINTS), .val (.int (1 : Int32)), .val (.int (1 : Int32)), .val (.ref w_TOP_OFFEROR), .val (.ref w_IDENTICAL_TOP_SCORES), .val (.ref w_PROPOSAL_POINTS_code), .val (.int (1 : Int32)), .val (.int (1 : Int32)), .val (.int (1 : Int32))] [(.int (1 : Int32)), (.int (1 : Int32))]) _
    refine XS.icmpNo X84.here hx rfl (hb hby at_138) rfl (teq (rfl : (1 : Int32) = (1 : Int32))).2 ?_
    show own_S p e below T84 (mkF m 141 #[.val (.int p1), .val (.ref b43), .val (.int (1 : Int32)), .val (.ref w_PROPOSAL_POINTS), .val (.int (1 : Int32)), .val (.int (1 : Int32)), .val (.ref w_TOP_OFFEROR), .val (.ref w_IDENTICAL_TOP_SCORES), .val (.ref w_PROPOSAL_POINTS_code), .val (.int (1 : Int32)), .val (.int (1 : Int32)), .val (.int (1 : Int32))] []) _
    refine XS.iload X84.here hx rfl (hb hby at_141) rfl ?_
    show own_S p e below T84 (mkF m 143 #[.val (.int p1), .val (.ref b43), .val (.int (1 : Int32)), .val (.ref w_PROPOSAL_POINTS), .val (.int (1 : Int32)), .val (.int (1 : Int32)), .val (.ref w_TOP_OFFEROR), .val (.ref w_IDENTICAL_TOP_SCORES), .val (.ref w_PROPOSAL_POINTS_code), .val (.int (1 : Int32)), .val (.int (1 : Int32)), .val (.int (1 : Int32))] [(.int (1 : Int32))]) _
    refine XS.iload X84.here hx rfl (hb hby at_143) rfl ?_
    show own_S p e below T84 (mkF m 145 #[.val (.int p1), .val (.ref b43), .val (.int (1 : Int32)), .val (.ref w_PROPOSAL_POINTS), .val (.int (1 : Int32)), .val (.int (1 : Int32)), .val (.ref w_TOP_OFFEROR), .val (.ref w_IDENTICAL_TOP_SCORES), .val (.ref w_PROPOSAL_POINTS_code), .val (.int (1 : Int32)), .val (.int (1 : Int32)), .val (.int (1 : Int32))] [(.int (1 : Int32)), (.int (1 : Int32))]) _
    refine XS.icmpNo X84.here hx rfl (hb hby at_145) rfl (teq (rfl : (1 : Int32) = (1 : Int32))).2 ?_
    show own_S p e below T84 (mkF m 148 #[.val (.int p1), .val (.ref b43), .val (.int (1 : Int32)), .val (.ref w_PROPOSAL_POINTS), .val (.int (1 : Int32)), .val (.int (1 : Int32)), .val (.ref w_TOP_OFFEROR), .val (.ref w_IDENTICAL_TOP_SCORES), .val (.ref w_PROPOSAL_POINTS_code), .val (.int (1 : Int32)), .val (.int (1 : Int32)), .val (.int (1 : Int32))] []) _
    refine XS.iload X84.here hx rfl (hb hby at_148) rfl ?_
    show own_S p e below T84 (mkF m 150 #[.val (.int p1), .val (.ref b43), .val (.int (1 : Int32)), .val (.ref w_PROPOSAL_POINTS), .val (.int (1 : Int32)), .val (.int (1 : Int32)), .val (.ref w_TOP_OFFEROR), .val (.ref w_IDENTICAL_TOP_SCORES), .val (.ref w_PROPOSAL_POINTS_code), .val (.int (1 : Int32)), .val (.int (1 : Int32)), .val (.int (1 : Int32))] [(.int (1 : Int32))]) _
    refine XS.iload X84.here hx rfl (hb hby at_150) rfl ?_
    show own_S p e below T84 (mkF m 152 #[.val (.int p1), .val (.ref b43), .val (.int (1 : Int32)), .val (.ref w_PROPOSAL_POINTS), .val (.int (1 : Int32)), .val (.int (1 : Int32)), .val (.ref w_TOP_OFFEROR), .val (.ref w_IDENTICAL_TOP_SCORES), .val (.ref w_PROPOSAL_POINTS_code), .val (.int (1 : Int32)), .val (.int (1 : Int32)), .val (.int (1 : Int32))] [(.int (1 : Int32)), (.int (1 : Int32))]) _
    refine XS.icmpNo X84.here hx rfl (hb hby at_152) rfl (teq (rfl : (1 : Int32) = (1 : Int32))).2 ?_
    show own_S p e below T84 (mkF m 155 #[.val (.int p1), .val (.ref b43), .val (.int (1 : Int32)), .val (.ref w_PROPOSAL_POINTS), .val (.int (1 : Int32)), .val (.int (1 : Int32)), .val (.ref w_TOP_OFFEROR), .val (.ref w_IDENTICAL_TOP_SCORES), .val (.ref w_PROPOSAL_POINTS_code), .val (.int (1 : Int32)), .val (.int (1 : Int32)), .val (.int (1 : Int32))] []) _
    refine XS.iconst X84.here hx rfl (hb hby at_155) ?_
    show own_S p e below T84 (mkF m 156 #[.val (.int p1), .val (.ref b43), .val (.int (1 : Int32)), .val (.ref w_PROPOSAL_POINTS), .val (.int (1 : Int32)), .val (.int (1 : Int32)), .val (.ref w_TOP_OFFEROR), .val (.ref w_IDENTICAL_TOP_SCORES), .val (.ref w_PROPOSAL_POINTS_code), .val (.int (1 : Int32)), .val (.int (1 : Int32)), .val (.int (1 : Int32))] [(.int (1 : Int32))]) _
    refine XS.goto X84.here hx rfl (pc0 := 156) (pc' := 160) rfl (hb hby at_156) (by decide) (by decide) ?_
    show own_S p e below T84 (mkF m 160 #[.val (.int p1), .val (.ref b43), .val (.int (1 : Int32)), .val (.ref w_PROPOSAL_POINTS), .val (.int (1 : Int32)), .val (.int (1 : Int32)), .val (.ref w_TOP_OFFEROR), .val (.ref w_IDENTICAL_TOP_SCORES), .val (.ref w_PROPOSAL_POINTS_code), .val (.int (1 : Int32)), .val (.int (1 : Int32)), .val (.int (1 : Int32))] [(.int (1 : Int32))]) _
    exact retN X84 hx (t := .boolean) hret (by simp) (hb hby at_160) hr
  · show Qrm0_1 Z w_BID w_PROPOSAL_POINTS w_PROPOSAL_WEIGHTS w_TOP_OFFEROR w_IDENTICAL_TOP_SCORES w_PROPOSAL_POINTS_code w_PROPOSAL_POINTS_code_value cl_w_PROPOSAL_POINTS_code_value w_COMPACT_STRINGS w_SIOOBE_FORMATTER p1 h0 _ T84.heap _
    exact ⟨rfl, N82⟩
def Qrm96 (Z : State) (w_BID : Addr) (w_PROPOSAL_WEIGHTS : Addr) (h0 : Heap) (v : Option Value) (h : Heap) (L : List Loc) : Prop := v = some (.int (1 : Int32)) ∧ Fr Z.heap.size L ∧ h = h0
set_option maxRecDepth 65536 in
set_option maxHeartbeats 40000000 in
theorem rm96 (l : Launch) (Z : State) (a0 : Array Value) (hw : ∀ d ∈ tables_1, d.before a0 Z = true) (ws : List Jvm.Cond) (w_BID : Addr) (w_PROPOSAL_WEIGHTS : Addr) (h0 : Heap) (Z0 : Ext Z.heap h0) (S_w_BID : Sta Z Z.heap "com/example/zia_tally/ziatally/evaluation/Method" "BID" "Lcom/example/zia_tally/ziatally/evaluation/Method;" (.ref w_BID)) (hc8 : ¬ (w_PROPOSAL_WEIGHTS = w_BID)) :
    own_met l y_0 prog_7_method_5_code 1 (some .boolean) ws ({ frames := 0, cells := 0, slots := 0, locals := 0 } : Room) Z #[(.ref w_PROPOSAL_WEIGHTS)] h0 (Qrm96 Z w_BID w_PROPOSAL_WEIGHTS h0) := by
  refine own_start (plainFor_of_name pn_0) (fun m => ef_prog_7_method_5_R m w_PROPOSAL_WEIGHTS) ?_
  intro p e s m below meth c s₁ hx hby hml hown hnm X0 hZ e0 hret hlk
  have N0 := Fr.nil Z.heap.size
  obtain ⟨T97, X97, e97, st97⟩ := getS2 X0 hx hZ hown (host := "") (Or.inl (own_w hw 16 rfl)) Via.refl e0 (S_w_BID.ext Z0) (g := (mkF m 1 #[.val (.ref w_PROPOSAL_WEIGHTS)] [(.ref w_PROPOSAL_WEIGHTS)])) rfl (hb hby d_prog_7_method_5_1)
  obtain ⟨fs, hr, hrun, hended, hW, hsame⟩ := X97.leave (v := some (.int (1 : Int32))) (fun h => by rw [hret] at h; cases h) hlk
  refine ⟨_, _, ?_, hrun, hended, _, _, rfl, ?_, ⟨_, rfl⟩, hW, hsame.mono (by decide) (by decide)⟩
  · show own_S p e below s₁ (mkF m 0 #[.val (.ref w_PROPOSAL_WEIGHTS)] []) _
    refine XS.aloadN X0.here hx rfl (hb hby d_prog_7_method_5_0) rfl rfl ?_
    show own_S p e below s₁ (mkF m 1 #[.val (.ref w_PROPOSAL_WEIGHTS)] [(.ref w_PROPOSAL_WEIGHTS)]) _
    refine st97 _ ?_
    show own_S p e below T97 (mkF m 4 #[.val (.ref w_PROPOSAL_WEIGHTS)] [(.ref w_BID), (.ref w_PROPOSAL_WEIGHTS)]) _
    refine Jvm.RoadKit.acmp (g := (mkF m 4 #[.val (.ref w_PROPOSAL_WEIGHTS)] [(.ref w_BID), (.ref w_PROPOSAL_WEIGHTS)])) X97 hx rfl rfl rfl (pc0 := 4) (pc' := 7) (same := false) rfl (hb hby d_prog_7_method_5_4) rfl (decide_eq_false fun q => hc8 (Value.ref.inj q)) (by decide) (by decide) ?_
    show own_S p e below T97 (mkF m 7 #[.val (.ref w_PROPOSAL_WEIGHTS)] []) _
    refine XS.iconst X97.here hx rfl (hb hby d_prog_7_method_5_7) ?_
    show own_S p e below T97 (mkF m 8 #[.val (.ref w_PROPOSAL_WEIGHTS)] [(.int (1 : Int32))]) _
    refine XS.goto X97.here hx rfl (pc0 := 8) (pc' := 12) rfl (hb hby d_prog_7_method_5_8) (by decide) (by decide) ?_
    show own_S p e below T97 (mkF m 12 #[.val (.ref w_PROPOSAL_WEIGHTS)] [(.int (1 : Int32))]) _
    exact retN X97 hx (t := .boolean) hret (by simp) (hb hby d_prog_7_method_5_12) hr
  · show Qrm96 Z w_BID w_PROPOSAL_WEIGHTS h0 _ T97.heap _
    rw [e97]
    exact ⟨rfl, N0, rfl⟩
def Qrm99 (Z : State) (w_PROPOSAL_WEIGHTS : Addr) (w_TOP_OFFEROR : Addr) (h0 : Heap) (v : Option Value) (h : Heap) (L : List Loc) : Prop := v = some (.ref w_TOP_OFFEROR) ∧ Fr Z.heap.size L ∧ h = h0
set_option maxRecDepth 65536 in
set_option maxHeartbeats 40000000 in
theorem rm99 (l : Launch) (Z : State) (a0 : Array Value) (hw : ∀ d ∈ tables_1, d.before a0 Z = true) (ws : List Jvm.Cond) (w_PROPOSAL_WEIGHTS : Addr) (w_TOP_OFFEROR : Addr) (h0 : Heap) (Z0 : Ext Z.heap h0) (F_w_PROPOSAL_WEIGHTS_single : Fld Z Z.heap w_PROPOSAL_WEIGHTS "com/example/zia_tally/ziatally/evaluation/Method" "single" "Lcom/example/zia_tally/ziatally/evaluation/Outcome;" (.ref w_TOP_OFFEROR)) :
    own_met l y_1 prog_7_method_7_code 2 (some (.object "com/example/zia_tally/ziatally/evaluation/Outcome")) ws ({ frames := 0, cells := 0, slots := 0, locals := 0 } : Room) Z #[(.ref w_PROPOSAL_WEIGHTS), (.int (0 : Int32))] h0 (Qrm99 Z w_PROPOSAL_WEIGHTS w_TOP_OFFEROR h0) := by
  refine own_start (plainFor_of_name pn_0) (fun m => ef_prog_7_method_7_RI m w_PROPOSAL_WEIGHTS (0 : Int32)) ?_
  intro p e s m below meth c s₁ hx hby hml hown hnm X0 hZ e0 hret hlk
  have N0 := Fr.nil Z.heap.size
  obtain ⟨T100, X100, e100, st100⟩ := getF X0 hx hZ hown (host := "") (Or.inl (own_w hw 22 rfl)) Via.refl e0 (F_w_PROPOSAL_WEIGHTS_single.ext Z0) (g := (mkF m 12 #[.val (.ref w_PROPOSAL_WEIGHTS), .val (.int (0 : Int32))] [(.ref w_PROPOSAL_WEIGHTS)])) rfl rfl (hb hby d_prog_7_method_7_12)
  obtain ⟨fs, hr, hrun, hended, hW, hsame⟩ := X100.leave (v := some (.ref w_TOP_OFFEROR)) (fun h => by rw [hret] at h; cases h) hlk
  refine ⟨_, _, ?_, hrun, hended, _, _, rfl, ?_, ⟨_, rfl⟩, hW, hsame.mono (by decide) (by decide)⟩
  · show own_S p e below s₁ (mkF m 0 #[.val (.ref w_PROPOSAL_WEIGHTS), .val (.int (0 : Int32))] []) _
    refine XS.iloadN X0.here hx rfl (hb hby d_prog_7_method_7_0) rfl ?_
    show own_S p e below s₁ (mkF m 1 #[.val (.ref w_PROPOSAL_WEIGHTS), .val (.int (0 : Int32))] [(.int (0 : Int32))]) _
    refine XS.ifYes X0.here hx rfl (pc0 := 1) (pc' := 11) rfl (hb hby d_prog_7_method_7_1) rfl ((if0 _ _).trans (teq (rfl : (0 : Int32) = (0 : Int32))).1) (by decide) (by decide) ?_
    show own_S p e below s₁ (mkF m 11 #[.val (.ref w_PROPOSAL_WEIGHTS), .val (.int (0 : Int32))] []) _
    refine XS.aloadN X0.here hx rfl (hb hby d_prog_7_method_7_11) rfl rfl ?_
    show own_S p e below s₁ (mkF m 12 #[.val (.ref w_PROPOSAL_WEIGHTS), .val (.int (0 : Int32))] [(.ref w_PROPOSAL_WEIGHTS)]) _
    refine st100 _ ?_
    show own_S p e below T100 (mkF m 15 #[.val (.ref w_PROPOSAL_WEIGHTS), .val (.int (0 : Int32))] [(.ref w_TOP_OFFEROR)]) _
    jvm_step X100.here [X100.here.top, hx, (hb hby d_prog_7_method_7_15), X100.method', hret, Value.isRef, FieldType.isReference]
    first | (intro acts; rw [hr _ acts rfl rfl rfl]) | rw [hr _ _ rfl rfl rfl]
    exact Steps.refl _
  · show Qrm99 Z w_PROPOSAL_WEIGHTS w_TOP_OFFEROR h0 _ T100.heap _
    rw [e100]
    exact ⟨rfl, N0, rfl⟩
def Qrm102 (Z : State) (w_PROPOSAL_WEIGHTS : Addr) (w_IDENTICAL_TOP_SCORES : Addr) (h0 : Heap) (v : Option Value) (h : Heap) (L : List Loc) : Prop := v = some (.ref w_IDENTICAL_TOP_SCORES) ∧ Fr Z.heap.size L ∧ h = h0
set_option maxRecDepth 65536 in
set_option maxHeartbeats 40000000 in
theorem rm102 (l : Launch) (Z : State) (a0 : Array Value) (hw : ∀ d ∈ tables_1, d.before a0 Z = true) (ws : List Jvm.Cond) (w_PROPOSAL_WEIGHTS : Addr) (w_IDENTICAL_TOP_SCORES : Addr) (h0 : Heap) (Z0 : Ext Z.heap h0) (F_w_PROPOSAL_WEIGHTS_tied : Fld Z Z.heap w_PROPOSAL_WEIGHTS "com/example/zia_tally/ziatally/evaluation/Method" "tied" "Lcom/example/zia_tally/ziatally/evaluation/Outcome;" (.ref w_IDENTICAL_TOP_SCORES)) :
    own_met l y_1 prog_7_method_7_code 2 (some (.object "com/example/zia_tally/ziatally/evaluation/Outcome")) ws ({ frames := 0, cells := 0, slots := 0, locals := 0 } : Room) Z #[(.ref w_PROPOSAL_WEIGHTS), (.int (1 : Int32))] h0 (Qrm102 Z w_PROPOSAL_WEIGHTS w_IDENTICAL_TOP_SCORES h0) := by
  refine own_start (plainFor_of_name pn_0) (fun m => ef_prog_7_method_7_RI m w_PROPOSAL_WEIGHTS (1 : Int32)) ?_
  intro p e s m below meth c s₁ hx hby hml hown hnm X0 hZ e0 hret hlk
  have N0 := Fr.nil Z.heap.size
  obtain ⟨T103, X103, e103, st103⟩ := getF X0 hx hZ hown (host := "") (Or.inl (own_w hw 26 rfl)) Via.refl e0 (F_w_PROPOSAL_WEIGHTS_tied.ext Z0) (g := (mkF m 5 #[.val (.ref w_PROPOSAL_WEIGHTS), .val (.int (1 : Int32))] [(.ref w_PROPOSAL_WEIGHTS)])) rfl rfl (hb hby d_prog_7_method_7_5)
  obtain ⟨fs, hr, hrun, hended, hW, hsame⟩ := X103.leave (v := some (.ref w_IDENTICAL_TOP_SCORES)) (fun h => by rw [hret] at h; cases h) hlk
  refine ⟨_, _, ?_, hrun, hended, _, _, rfl, ?_, ⟨_, rfl⟩, hW, hsame.mono (by decide) (by decide)⟩
  · show own_S p e below s₁ (mkF m 0 #[.val (.ref w_PROPOSAL_WEIGHTS), .val (.int (1 : Int32))] []) _
    refine XS.iloadN X0.here hx rfl (hb hby d_prog_7_method_7_0) rfl ?_
    show own_S p e below s₁ (mkF m 1 #[.val (.ref w_PROPOSAL_WEIGHTS), .val (.int (1 : Int32))] [(.int (1 : Int32))]) _
    refine XS.ifNo X0.here hx rfl (hb hby d_prog_7_method_7_1) rfl ((if0 _ _).trans (feq (by decide : ¬ ((1 : Int32) = (0 : Int32)))).1) ?_
    show own_S p e below s₁ (mkF m 4 #[.val (.ref w_PROPOSAL_WEIGHTS), .val (.int (1 : Int32))] []) _
    refine XS.aloadN X0.here hx rfl (hb hby d_prog_7_method_7_4) rfl rfl ?_
    show own_S p e below s₁ (mkF m 5 #[.val (.ref w_PROPOSAL_WEIGHTS), .val (.int (1 : Int32))] [(.ref w_PROPOSAL_WEIGHTS)]) _
    refine st103 _ ?_
    show own_S p e below T103 (mkF m 8 #[.val (.ref w_PROPOSAL_WEIGHTS), .val (.int (1 : Int32))] [(.ref w_IDENTICAL_TOP_SCORES)]) _
    refine XS.goto X103.here hx rfl (pc0 := 8) (pc' := 15) rfl (hb hby d_prog_7_method_7_8) (by decide) (by decide) ?_
    show own_S p e below T103 (mkF m 15 #[.val (.ref w_PROPOSAL_WEIGHTS), .val (.int (1 : Int32))] [(.ref w_IDENTICAL_TOP_SCORES)]) _
    jvm_step X103.here [X103.here.top, hx, (hb hby d_prog_7_method_7_15), X103.method', hret, Value.isRef, FieldType.isReference]
    first | (intro acts; rw [hr _ acts rfl rfl rfl]) | rw [hr _ _ rfl rfl rfl]
    exact Steps.refl _
  · show Qrm102 Z w_PROPOSAL_WEIGHTS w_IDENTICAL_TOP_SCORES h0 _ T103.heap _
    rw [e103]
    exact ⟨rfl, N0, rfl⟩
def Qrm105 (Z : State) (w_PROPOSAL_WEIGHTS : Addr) (w_PROPOSAL_WEIGHTS_code : Addr) (h0 : Heap) (v : Option Value) (h : Heap) (L : List Loc) : Prop := v = some (.ref w_PROPOSAL_WEIGHTS_code) ∧ Fr Z.heap.size L ∧ h = h0
set_option maxRecDepth 65536 in
set_option maxHeartbeats 40000000 in
theorem rm105 (l : Launch) (Z : State) (a0 : Array Value) (hw : ∀ d ∈ tables_1, d.before a0 Z = true) (ws : List Jvm.Cond) (w_PROPOSAL_WEIGHTS : Addr) (w_PROPOSAL_WEIGHTS_code : Addr) (h0 : Heap) (Z0 : Ext Z.heap h0) (F_w_PROPOSAL_WEIGHTS_code : Fld Z Z.heap w_PROPOSAL_WEIGHTS "com/example/zia_tally/ziatally/evaluation/Method" "code" "Ljava/lang/String;" (.ref w_PROPOSAL_WEIGHTS_code)) :
    own_met l y_2 prog_7_method_4_code 1 (some (.object "java/lang/String")) ws ({ frames := 0, cells := 0, slots := 0, locals := 0 } : Room) Z #[(.ref w_PROPOSAL_WEIGHTS)] h0 (Qrm105 Z w_PROPOSAL_WEIGHTS w_PROPOSAL_WEIGHTS_code h0) := by
  refine own_start (plainFor_of_name pn_0) (fun m => ef_prog_7_method_4_R m w_PROPOSAL_WEIGHTS) ?_
  intro p e s m below meth c s₁ hx hby hml hown hnm X0 hZ e0 hret hlk
  have N0 := Fr.nil Z.heap.size
  obtain ⟨T106, X106, e106, st106⟩ := getF X0 hx hZ hown (host := "") (Or.inl (own_w hw 34 rfl)) Via.refl e0 (F_w_PROPOSAL_WEIGHTS_code.ext Z0) (g := (mkF m 1 #[.val (.ref w_PROPOSAL_WEIGHTS)] [(.ref w_PROPOSAL_WEIGHTS)])) rfl rfl (hb hby d_prog_7_method_4_1)
  obtain ⟨fs, hr, hrun, hended, hW, hsame⟩ := X106.leave (v := some (.ref w_PROPOSAL_WEIGHTS_code)) (fun h => by rw [hret] at h; cases h) hlk
  refine ⟨_, _, ?_, hrun, hended, _, _, rfl, ?_, ⟨_, rfl⟩, hW, hsame.mono (by decide) (by decide)⟩
  · show own_S p e below s₁ (mkF m 0 #[.val (.ref w_PROPOSAL_WEIGHTS)] []) _
    refine XS.aloadN X0.here hx rfl (hb hby d_prog_7_method_4_0) rfl rfl ?_
    show own_S p e below s₁ (mkF m 1 #[.val (.ref w_PROPOSAL_WEIGHTS)] [(.ref w_PROPOSAL_WEIGHTS)]) _
    refine st106 _ ?_
    show own_S p e below T106 (mkF m 4 #[.val (.ref w_PROPOSAL_WEIGHTS)] [(.ref w_PROPOSAL_WEIGHTS_code)]) _
    jvm_step X106.here [X106.here.top, hx, (hb hby d_prog_7_method_4_4), X106.method', hret, Value.isRef, FieldType.isReference]
    first | (intro acts; rw [hr _ acts rfl rfl rfl]) | rw [hr _ _ rfl rfl rfl]
    exact Steps.refl _
  · show Qrm105 Z w_PROPOSAL_WEIGHTS w_PROPOSAL_WEIGHTS_code h0 _ T106.heap _
    rw [e106]
    exact ⟨rfl, N0, rfl⟩
def Qrm108 (Z : State) (w_PROPOSAL_WEIGHTS_code : Addr) (w_PROPOSAL_WEIGHTS_code_value : Addr) (cl_w_PROPOSAL_WEIGHTS_code_value : Cell) (h0 : Heap) (v : Option Value) (h : Heap) (L : List Loc) : Prop := v = some (.int (0 : Int32)) ∧ Fr Z.heap.size L ∧ h = h0
set_option maxRecDepth 65536 in
set_option maxHeartbeats 40000000 in
theorem rm108 (l : Launch) (Z : State) (a0 : Array Value) (hw : ∀ d ∈ tables_1, d.before a0 Z = true) (ws : List Jvm.Cond) (w_PROPOSAL_WEIGHTS_code : Addr) (w_PROPOSAL_WEIGHTS_code_value : Addr) (cl_w_PROPOSAL_WEIGHTS_code_value : Cell) (h0 : Heap) (Z0 : Ext Z.heap h0) (F_w_PROPOSAL_WEIGHTS_code_value : Fld Z Z.heap w_PROPOSAL_WEIGHTS_code "java/lang/String" "value" "[B" (.ref w_PROPOSAL_WEIGHTS_code_value)) (Ar_w_PROPOSAL_WEIGHTS_code_value : Arr Z Z.heap w_PROPOSAL_WEIGHTS_code_value cl_w_PROPOSAL_WEIGHTS_code_value .byte) (Sz_w_PROPOSAL_WEIGHTS_code_value : cl_w_PROPOSAL_WEIGHTS_code_value.slots.size = (16 : Int32).toNatClampNeg) :
    own_met l y_3 jdk_42_method_55_code 1 (some .boolean) ws ({ frames := 0, cells := 0, slots := 0, locals := 0 } : Room) Z #[(.ref w_PROPOSAL_WEIGHTS_code)] h0 (Qrm108 Z w_PROPOSAL_WEIGHTS_code w_PROPOSAL_WEIGHTS_code_value cl_w_PROPOSAL_WEIGHTS_code_value h0) := by
  refine own_start (plainFor_of_name pn_1) (fun m => ef_jdk_42_method_55_R m w_PROPOSAL_WEIGHTS_code) ?_
  intro p e s m below meth c s₁ hx hby hml hown hnm X0 hZ e0 hret hlk
  have N0 := Fr.nil Z.heap.size
  obtain ⟨T109, X109, e109, st109⟩ := getF X0 hx hZ hown (host := "") (Or.inl (own_w hw 42 rfl)) Via.refl e0 (F_w_PROPOSAL_WEIGHTS_code_value.ext Z0) (g := (mkF m 1 #[.val (.ref w_PROPOSAL_WEIGHTS_code)] [(.ref w_PROPOSAL_WEIGHTS_code)])) rfl rfl (hb hby d_jdk_42_method_55_1)
  obtain ⟨fs, hr, hrun, hended, hW, hsame⟩ := X109.leave (v := some (.int (0 : Int32))) (fun h => by rw [hret] at h; cases h) hlk
  refine ⟨_, _, ?_, hrun, hended, _, _, rfl, ?_, ⟨_, rfl⟩, hW, hsame.mono (by decide) (by decide)⟩
  · show own_S p e below s₁ (mkF m 0 #[.val (.ref w_PROPOSAL_WEIGHTS_code)] []) _
    refine XS.aloadN X0.here hx rfl (hb hby d_jdk_42_method_55_0) rfl rfl ?_
    show own_S p e below s₁ (mkF m 1 #[.val (.ref w_PROPOSAL_WEIGHTS_code)] [(.ref w_PROPOSAL_WEIGHTS_code)]) _
    refine st109 _ ?_
    show own_S p e below T109 (mkF m 4 #[.val (.ref w_PROPOSAL_WEIGHTS_code)] [(.ref w_PROPOSAL_WEIGHTS_code_value)]) _
    refine X109.arraylength hx (by rw [e109]; exact (Ar_w_PROPOSAL_WEIGHTS_code_value.ext Z0).1) (State.isArrayOf_alike hZ.alike (Ar_w_PROPOSAL_WEIGHTS_code_value.ext Z0).2.1) (g := (mkF m 4 #[.val (.ref w_PROPOSAL_WEIGHTS_code)] [(.ref w_PROPOSAL_WEIGHTS_code_value)])) rfl rfl (hb hby d_jdk_42_method_55_4) _ ?_
    rw [len_of Sz_w_PROPOSAL_WEIGHTS_code_value (by decide)]
    show own_S p e below T109 (mkF m 5 #[.val (.ref w_PROPOSAL_WEIGHTS_code)] [(.int (16 : Int32))]) _
    refine XS.ifYes X109.here hx rfl (pc0 := 5) (pc' := 12) rfl (hb hby d_jdk_42_method_55_5) rfl ((if0 _ _).trans (feq (by decide : ¬ ((16 : Int32) = (0 : Int32)))).2) (by decide) (by decide) ?_
    show own_S p e below T109 (mkF m 12 #[.val (.ref w_PROPOSAL_WEIGHTS_code)] []) _
    refine XS.iconst X109.here hx rfl (hb hby d_jdk_42_method_55_12) ?_
    show own_S p e below T109 (mkF m 13 #[.val (.ref w_PROPOSAL_WEIGHTS_code)] [(.int (0 : Int32))]) _
    exact retN X109 hx (t := .boolean) hret (by simp) (hb hby d_jdk_42_method_55_13) hr
  · show Qrm108 Z w_PROPOSAL_WEIGHTS_code w_PROPOSAL_WEIGHTS_code_value cl_w_PROPOSAL_WEIGHTS_code_value h0 _ T109.heap _
    rw [e109]
    exact ⟨rfl, N0, rfl⟩
def Qrm112 (Z : State) (w_PROPOSAL_WEIGHTS_code : Addr) (w_COMPACT_STRINGS : Int32) (h0 : Heap) (v : Option Value) (h : Heap) (L : List Loc) : Prop := v = some (.int (1 : Int32)) ∧ Fr Z.heap.size L ∧ h = h0
set_option maxRecDepth 65536 in
set_option maxHeartbeats 40000000 in
theorem rm112 (l : Launch) (Z : State) (a0 : Array Value) (hw : ∀ d ∈ tables_1, d.before a0 Z = true) (ws : List Jvm.Cond) (w_PROPOSAL_WEIGHTS_code : Addr) (w_COMPACT_STRINGS : Int32) (h0 : Heap) (Z0 : Ext Z.heap h0) (S_w_COMPACT_STRINGS : Sta Z Z.heap "java/lang/String" "COMPACT_STRINGS" "Z" (.int w_COMPACT_STRINGS)) (F_w_PROPOSAL_WEIGHTS_code_coder : Fld Z Z.heap w_PROPOSAL_WEIGHTS_code "java/lang/String" "coder" "B" (.int (0 : Int32))) (hc1 : ¬ (w_COMPACT_STRINGS = (0 : Int32))) :
    own_met l y_4 jdk_42_method_154_code 1 (some .boolean) ws ({ frames := 0, cells := 0, slots := 0, locals := 0 } : Room) Z #[(.ref w_PROPOSAL_WEIGHTS_code)] h0 (Qrm112 Z w_PROPOSAL_WEIGHTS_code w_COMPACT_STRINGS h0) := by
  refine own_start (plainFor_of_name pn_1) (fun m => ef_jdk_42_method_154_R m w_PROPOSAL_WEIGHTS_code) ?_
  intro p e s m below meth c s₁ hx hby hml hown hnm X0 hZ e0 hret hlk
  have N0 := Fr.nil Z.heap.size
  obtain ⟨T113, X113, e113, st113⟩ := getS2 X0 hx hZ hown (host := "") (Or.inl (own_w hw 54 rfl)) Via.refl e0 (S_w_COMPACT_STRINGS.ext Z0) (g := (mkF m 0 #[.val (.ref w_PROPOSAL_WEIGHTS_code)] [])) rfl (hb hby d_jdk_42_method_154_0)
  obtain ⟨T114, X114, e114, st114⟩ := getF X113 hx hZ hown (host := "") (Or.inl (own_w hw 55 rfl)) Via.refl e113 (F_w_PROPOSAL_WEIGHTS_code_coder.ext Z0) (g := (mkF m 7 #[.val (.ref w_PROPOSAL_WEIGHTS_code)] [(.ref w_PROPOSAL_WEIGHTS_code)])) rfl rfl (hb hby d_jdk_42_method_154_7)
  obtain ⟨fs, hr, hrun, hended, hW, hsame⟩ := X114.leave (v := some (.int (1 : Int32))) (fun h => by rw [hret] at h; cases h) hlk
  refine ⟨_, _, ?_, hrun, hended, _, _, rfl, ?_, ⟨_, rfl⟩, hW, hsame.mono (by decide) (by decide)⟩
  · show own_S p e below s₁ (mkF m 0 #[.val (.ref w_PROPOSAL_WEIGHTS_code)] []) _
    refine st113 _ ?_
    show own_S p e below T113 (mkF m 3 #[.val (.ref w_PROPOSAL_WEIGHTS_code)] [(.int w_COMPACT_STRINGS)]) _
    refine XS.ifNo X113.here hx rfl (hb hby d_jdk_42_method_154_3) rfl ((if0 _ _).trans (feq hc1).1) ?_
    show own_S p e below T113 (mkF m 6 #[.val (.ref w_PROPOSAL_WEIGHTS_code)] []) _
    refine XS.aloadN X113.here hx rfl (hb hby d_jdk_42_method_154_6) rfl rfl ?_
    show own_S p e below T113 (mkF m 7 #[.val (.ref w_PROPOSAL_WEIGHTS_code)] [(.ref w_PROPOSAL_WEIGHTS_code)]) _
    refine st114 _ ?_
    show own_S p e below T114 (mkF m 10 #[.val (.ref w_PROPOSAL_WEIGHTS_code)] [(.int (0 : Int32))]) _
    refine XS.ifNo X114.here hx rfl (hb hby d_jdk_42_method_154_10) rfl ((if0 _ _).trans (teq (rfl : (0 : Int32) = (0 : Int32))).2) ?_
    show own_S p e below T114 (mkF m 13 #[.val (.ref w_PROPOSAL_WEIGHTS_code)] []) _
    refine XS.iconst X114.here hx rfl (hb hby d_jdk_42_method_154_13) ?_
    show own_S p e below T114 (mkF m 14 #[.val (.ref w_PROPOSAL_WEIGHTS_code)] [(.int (1 : Int32))]) _
    refine XS.goto X114.here hx rfl (pc0 := 14) (pc' := 18) rfl (hb hby d_jdk_42_method_154_14) (by decide) (by decide) ?_
    show own_S p e below T114 (mkF m 18 #[.val (.ref w_PROPOSAL_WEIGHTS_code)] [(.int (1 : Int32))]) _
    exact retN X114 hx (t := .boolean) hret (by simp) (hb hby d_jdk_42_method_154_18) hr
  · show Qrm112 Z w_PROPOSAL_WEIGHTS_code w_COMPACT_STRINGS h0 _ T114.heap _
    rw [e114]
    exact ⟨rfl, N0, rfl⟩
def Qrm120 (Z : State) (w_SIOOBE_FORMATTER : Value) (h0 : Heap) (v : Option Value) (h : Heap) (L : List Loc) : Prop := v = some (.int (0 : Int32)) ∧ Fr Z.heap.size L ∧ h = h0
set_option maxRecDepth 65536 in
set_option maxHeartbeats 40000000 in
theorem rm120 (l : Launch) (Z : State) (a0 : Array Value) (hw : ∀ d ∈ tables_1, d.before a0 Z = true) (ws : List Jvm.Cond) (w_SIOOBE_FORMATTER : Value) (h0 : Heap) (Z0 : Ext Z.heap h0) (R_w_SIOOBE_FORMATTER : w_SIOOBE_FORMATTER.isRef = true) :
    own_met l y_5 jdk_41_method_11_code 3 (some .int) ws ({ frames := 0, cells := 0, slots := 0, locals := 0 } : Room) Z #[(.int (0 : Int32)), (.int (16 : Int32)), w_SIOOBE_FORMATTER] h0 (Qrm120 Z w_SIOOBE_FORMATTER h0) := by
  refine own_start (plainFor_of_name pn_2) (fun m => ef_jdk_41_method_11_IIX m (0 : Int32) (16 : Int32) w_SIOOBE_FORMATTER R_w_SIOOBE_FORMATTER) ?_
  intro p e s m below meth c s₁ hx hby hml hown hnm X0 hZ e0 hret hlk
  have N0 := Fr.nil Z.heap.size
  obtain ⟨fs, hr, hrun, hended, hW, hsame⟩ := X0.leave (v := some (.int (0 : Int32))) (fun h => by rw [hret] at h; cases h) hlk
  refine ⟨_, _, ?_, hrun, hended, _, _, rfl, ?_, ⟨_, rfl⟩, hW, hsame.mono (by decide) (by decide)⟩
  · show own_S p e below s₁ (mkF m 0 #[.val (.int (0 : Int32)), .val (.int (16 : Int32)), .val w_SIOOBE_FORMATTER] []) _
    refine XS.iloadN X0.here hx rfl (hb hby d_jdk_41_method_11_0) rfl ?_
    show own_S p e below s₁ (mkF m 1 #[.val (.int (0 : Int32)), .val (.int (16 : Int32)), .val w_SIOOBE_FORMATTER] [(.int (0 : Int32))]) _
    refine XS.ifNo X0.here hx rfl (hb hby d_jdk_41_method_11_1) rfl ((if0 _ _).trans (flt (Int32.lt_irrefl : ¬ ((0 : Int32) < (0 : Int32)))).1) ?_
    show own_S p e below s₁ (mkF m 4 #[.val (.int (0 : Int32)), .val (.int (16 : Int32)), .val w_SIOOBE_FORMATTER] []) _
    refine XS.iloadN X0.here hx rfl (hb hby d_jdk_41_method_11_4) rfl ?_
    show own_S p e below s₁ (mkF m 5 #[.val (.int (0 : Int32)), .val (.int (16 : Int32)), .val w_SIOOBE_FORMATTER] [(.int (0 : Int32))]) _
    refine XS.iloadN X0.here hx rfl (hb hby d_jdk_41_method_11_5) rfl ?_
    show own_S p e below s₁ (mkF m 6 #[.val (.int (0 : Int32)), .val (.int (16 : Int32)), .val w_SIOOBE_FORMATTER] [(.int (16 : Int32)), (.int (0 : Int32))]) _
    refine XS.icmpYes X0.here hx rfl (pc0 := 6) (pc' := 16) rfl (hb hby d_jdk_41_method_11_6) rfl (tlt (by decide : (0 : Int32) < (16 : Int32))).1 (by decide) (by decide) ?_
    show own_S p e below s₁ (mkF m 16 #[.val (.int (0 : Int32)), .val (.int (16 : Int32)), .val w_SIOOBE_FORMATTER] []) _
    refine XS.iloadN X0.here hx rfl (hb hby d_jdk_41_method_11_16) rfl ?_
    show own_S p e below s₁ (mkF m 17 #[.val (.int (0 : Int32)), .val (.int (16 : Int32)), .val w_SIOOBE_FORMATTER] [(.int (0 : Int32))]) _
    exact retI X0 hx hret (hb hby d_jdk_41_method_11_17) hr
  · show Qrm120 Z w_SIOOBE_FORMATTER h0 _ s₁.heap _
    rw [e0]
    exact ⟨rfl, N0, rfl⟩
def Qrm118 (Z : State) (w_SIOOBE_FORMATTER : Value) (h0 : Heap) (v : Option Value) (h : Heap) (L : List Loc) : Prop := v = none ∧ Fr Z.heap.size L ∧ h = h0
set_option maxRecDepth 65536 in
set_option maxHeartbeats 40000000 in
theorem rm118 (l : Launch) (Z : State) (a0 : Array Value) (hw : ∀ d ∈ tables_1, d.before a0 Z = true) (ws : List Jvm.Cond) (w_SIOOBE_FORMATTER : Value) (h0 : Heap) (Z0 : Ext Z.heap h0) (S_w_SIOOBE_FORMATTER : Sta Z Z.heap "jdk/internal/util/Preconditions" "SIOOBE_FORMATTER" "Ljava/util/function/BiFunction;" w_SIOOBE_FORMATTER) (R_w_SIOOBE_FORMATTER : w_SIOOBE_FORMATTER.isRef = true) :
    own_met l y_6 jdk_42_method_155_code 2 none ws ({ frames := 1, cells := 0, slots := 0, locals := 14 } : Room) Z #[(.int (0 : Int32)), (.int (16 : Int32))] h0 (Qrm118 Z w_SIOOBE_FORMATTER h0) := by
  refine own_start (plainFor_of_name pn_1) (fun m => ef_jdk_42_method_155_II m (0 : Int32) (16 : Int32)) ?_
  intro p e s m below meth c s₁ hx hby hml hown hnm X0 hZ e0 hret hlk
  have N0 := Fr.nil Z.heap.size
  obtain ⟨T119, X119, e119, st119⟩ := getS2 X0 hx hZ hown (host := "") (Or.inl (own_w hw 64 rfl)) Via.refl e0 (S_w_SIOOBE_FORMATTER.ext Z0) (g := (mkF m 2 #[.val (.int (0 : Int32)), .val (.int (16 : Int32))] [(.int (16 : Int32)), (.int (0 : Int32))])) rfl (hb hby d_jdk_42_method_155_2)
  obtain ⟨_, T121, Lc121, X121, hQ121, st121⟩ := own_static (y := y_5) X119 hx hZ hown (own_w hw 66 rfl) (own_w hw 67 rfl) (own_w hw 65 rfl) (own_w hw 68 rfl) (by decide) (rm120 l Z a0 hw [] w_SIOOBE_FORMATTER h0 Z0 R_w_SIOOBE_FORMATTER) (by decide) (by decide) e119 (g := (mkF m 5 #[.val (.int (0 : Int32)), .val (.int (16 : Int32))] [w_SIOOBE_FORMATTER, (.int (16 : Int32)), (.int (0 : Int32))])) rfl (by rw [hml]; rfl) (argsL := [(.int (0 : Int32)), (.int (16 : Int32)), w_SIOOBE_FORMATTER]) (rest := []) (lenOf pd_3 rfl) rfl rfl (W := 0) (by show 2 * 0 + _ ≤ _; exact Nat.le_of_eq rfl) (hb hby d_jdk_42_method_155_5) (by decide) (by decide)
  obtain ⟨rfl, N121q, e121⟩ := hQ121
  have N121 := Fr.app N0 N121q
  obtain ⟨fs, hr, hrun, hended, hW, hsame⟩ := X121.leave (v := none) (fun _ => rfl) hlk
  refine ⟨_, _, ?_, hrun, hended, _, _, rfl, ?_, ⟨_, rfl⟩, hW, hsame.mono (by decide) (by decide)⟩
  · show own_S p e below s₁ (mkF m 0 #[.val (.int (0 : Int32)), .val (.int (16 : Int32))] []) _
    refine XS.iloadN X0.here hx rfl (hb hby d_jdk_42_method_155_0) rfl ?_
    show own_S p e below s₁ (mkF m 1 #[.val (.int (0 : Int32)), .val (.int (16 : Int32))] [(.int (0 : Int32))]) _
    refine XS.iloadN X0.here hx rfl (hb hby d_jdk_42_method_155_1) rfl ?_
    show own_S p e below s₁ (mkF m 2 #[.val (.int (0 : Int32)), .val (.int (16 : Int32))] [(.int (16 : Int32)), (.int (0 : Int32))]) _
    refine st119 _ ?_
    show own_S p e below T119 (mkF m 5 #[.val (.int (0 : Int32)), .val (.int (16 : Int32))] [w_SIOOBE_FORMATTER, (.int (16 : Int32)), (.int (0 : Int32))]) _
    refine st121 _ ?_
    show own_S p e below T121 (mkF m 8 #[.val (.int (0 : Int32)), .val (.int (16 : Int32))] [(.int (0 : Int32))]) _
    refine XS.pop X121.here hx rfl (hb hby d_jdk_42_method_155_8) rfl rfl ?_
    show own_S p e below T121 (mkF m 9 #[.val (.int (0 : Int32)), .val (.int (16 : Int32))] []) _
    exact X121.returnOut hx hret (hb hby d_jdk_42_method_155_9) hr
  · show Qrm118 Z w_SIOOBE_FORMATTER h0 _ T121.heap _
    rw [e121]
    exact ⟨rfl, N121, rfl⟩
def Qrm117 (Z : State) (w_PROPOSAL_WEIGHTS_code_value : Addr) (cl_w_PROPOSAL_WEIGHTS_code_value : Cell) (w_SIOOBE_FORMATTER : Value) (h0 : Heap) (v : Option Value) (h : Heap) (L : List Loc) : Prop := v = some (.int (112 : Int32)) ∧ Fr Z.heap.size L ∧ h = h0
set_option maxRecDepth 65536 in
set_option maxHeartbeats 40000000 in
theorem rm117 (l : Launch) (Z : State) (a0 : Array Value) (hw : ∀ d ∈ tables_1, d.before a0 Z = true) (ws : List Jvm.Cond) (w_PROPOSAL_WEIGHTS_code_value : Addr) (cl_w_PROPOSAL_WEIGHTS_code_value : Cell) (w_SIOOBE_FORMATTER : Value) (h0 : Heap) (Z0 : Ext Z.heap h0) (Ar_w_PROPOSAL_WEIGHTS_code_value : Arr Z Z.heap w_PROPOSAL_WEIGHTS_code_value cl_w_PROPOSAL_WEIGHTS_code_value .byte) (Sz_w_PROPOSAL_WEIGHTS_code_value : cl_w_PROPOSAL_WEIGHTS_code_value.slots.size = (16 : Int32).toNatClampNeg) (S_w_SIOOBE_FORMATTER : Sta Z Z.heap "jdk/internal/util/Preconditions" "SIOOBE_FORMATTER" "Ljava/util/function/BiFunction;" w_SIOOBE_FORMATTER) (R_w_SIOOBE_FORMATTER : w_SIOOBE_FORMATTER.isRef = true) (hin_w_PROPOSAL_WEIGHTS_code_value_0 : ¬ ((0 : Int32) < 0 ∨ cl_w_PROPOSAL_WEIGHTS_code_value.slots.size ≤ ((0 : Int32)).toNatClampNeg)) (hat_w_PROPOSAL_WEIGHTS_code_value_0 : cl_w_PROPOSAL_WEIGHTS_code_value.slots[((0 : Int32)).toNatClampNeg]? = some (.int (112 : Int32))) :
    own_met l y_7 jdk_43_method_2_code 2 (some .char) ws ({ frames := 2, cells := 0, slots := 0, locals := 27 } : Room) Z #[(.ref w_PROPOSAL_WEIGHTS_code_value), (.int (0 : Int32))] h0 (Qrm117 Z w_PROPOSAL_WEIGHTS_code_value cl_w_PROPOSAL_WEIGHTS_code_value w_SIOOBE_FORMATTER h0) := by
  refine own_start (plainFor_of_name pn_3) (fun m => ef_jdk_43_method_2_RI m w_PROPOSAL_WEIGHTS_code_value (0 : Int32)) ?_
  intro p e s m below meth c s₁ hx hby hml hown hnm X0 hZ e0 hret hlk
  have N0 := Fr.nil Z.heap.size
  obtain ⟨_, T122, Lc122, X122, hQ122, st122⟩ := own_static (y := y_6) X0 hx hZ hown (own_w hw 61 rfl) (own_w hw 62 rfl) (own_w hw 40 rfl) (own_w hw 63 rfl) (by decide) (rm118 l Z a0 hw [] w_SIOOBE_FORMATTER h0 Z0 S_w_SIOOBE_FORMATTER R_w_SIOOBE_FORMATTER) (by decide) (by decide) e0 (g := (mkF m 3 #[.val (.ref w_PROPOSAL_WEIGHTS_code_value), .val (.int (0 : Int32))] [(.int (16 : Int32)), (.int (0 : Int32))])) rfl (by rw [hml]; rfl) (argsL := [(.int (0 : Int32)), (.int (16 : Int32))]) (rest := []) (lenOf pd_4 rfl) rfl rfl (W := 0) (by show 2 * 0 + _ ≤ _; exact Nat.le_of_eq rfl) (hb hby d_jdk_43_method_2_3) (by decide) (by decide)
  obtain ⟨rfl, N122q, e122⟩ := hQ122
  have N122 := Fr.app N0 N122q
  obtain ⟨fs, hr, hrun, hended, hW, hsame⟩ := X122.leave (v := some (.int (112 : Int32))) (fun h => by rw [hret] at h; cases h) hlk
  refine ⟨_, _, ?_, hrun, hended, _, _, rfl, ?_, ⟨_, rfl⟩, hW, hsame.mono (by decide) (by decide)⟩
  · show own_S p e below s₁ (mkF m 0 #[.val (.ref w_PROPOSAL_WEIGHTS_code_value), .val (.int (0 : Int32))] []) _
    refine XS.iloadN X0.here hx rfl (hb hby d_jdk_43_method_2_0) rfl ?_
    show own_S p e below s₁ (mkF m 1 #[.val (.ref w_PROPOSAL_WEIGHTS_code_value), .val (.int (0 : Int32))] [(.int (0 : Int32))]) _
    refine XS.aloadN X0.here hx rfl (hb hby d_jdk_43_method_2_1) rfl rfl ?_
    show own_S p e below s₁ (mkF m 2 #[.val (.ref w_PROPOSAL_WEIGHTS_code_value), .val (.int (0 : Int32))] [(.ref w_PROPOSAL_WEIGHTS_code_value), (.int (0 : Int32))]) _
    refine X0.arraylength hx (by rw [e0]; exact (Ar_w_PROPOSAL_WEIGHTS_code_value.ext Z0).1) (State.isArrayOf_alike hZ.alike (Ar_w_PROPOSAL_WEIGHTS_code_value.ext Z0).2.1) (g := (mkF m 2 #[.val (.ref w_PROPOSAL_WEIGHTS_code_value), .val (.int (0 : Int32))] [(.ref w_PROPOSAL_WEIGHTS_code_value), (.int (0 : Int32))])) rfl rfl (hb hby d_jdk_43_method_2_2) _ ?_
    rw [len_of Sz_w_PROPOSAL_WEIGHTS_code_value (by decide)]
    show own_S p e below s₁ (mkF m 3 #[.val (.ref w_PROPOSAL_WEIGHTS_code_value), .val (.int (0 : Int32))] [(.int (16 : Int32)), (.int (0 : Int32))]) _
    refine st122 _ ?_
    show own_S p e below T122 (mkF m 6 #[.val (.ref w_PROPOSAL_WEIGHTS_code_value), .val (.int (0 : Int32))] []) _
    refine XS.aloadN X122.here hx rfl (hb hby d_jdk_43_method_2_6) rfl rfl ?_
    show own_S p e below T122 (mkF m 7 #[.val (.ref w_PROPOSAL_WEIGHTS_code_value), .val (.int (0 : Int32))] [(.ref w_PROPOSAL_WEIGHTS_code_value)]) _
    refine XS.iloadN X122.here hx rfl (hb hby d_jdk_43_method_2_7) rfl ?_
    show own_S p e below T122 (mkF m 8 #[.val (.ref w_PROPOSAL_WEIGHTS_code_value), .val (.int (0 : Int32))] [(.int (0 : Int32)), (.ref w_PROPOSAL_WEIGHTS_code_value)]) _
    refine X122.baloadBytes hx (j := (0 : Int32)) (v := (.int (112 : Int32))) (by rw [e122]; exact (Ar_w_PROPOSAL_WEIGHTS_code_value.ext Z0).1) (State.isArrayOf_alike hZ.alike (Ar_w_PROPOSAL_WEIGHTS_code_value.ext Z0).2.1) (Ar_w_PROPOSAL_WEIGHTS_code_value.ext Z0).2.2 hin_w_PROPOSAL_WEIGHTS_code_value_0 hat_w_PROPOSAL_WEIGHTS_code_value_0 (g := (mkF m 8 #[.val (.ref w_PROPOSAL_WEIGHTS_code_value), .val (.int (0 : Int32))] [(.int (0 : Int32)), (.ref w_PROPOSAL_WEIGHTS_code_value)])) rfl rfl (hb hby d_jdk_43_method_2_8) _ ?_
    show own_S p e below T122 (mkF m 9 #[.val (.ref w_PROPOSAL_WEIGHTS_code_value), .val (.int (0 : Int32))] [(.int (112 : Int32))]) _
    refine XS.sipush X122.here hx rfl (hb hby d_jdk_43_method_2_9) ?_
    show own_S p e below T122 (mkF m 12 #[.val (.ref w_PROPOSAL_WEIGHTS_code_value), .val (.int (0 : Int32))] [(.int (255 : Int32)), (.int (112 : Int32))]) _
    refine XS.iand X122.here hx rfl (hb hby d_jdk_43_method_2_12) rfl ?_
    show own_S p e below T122 (mkF m 13 #[.val (.ref w_PROPOSAL_WEIGHTS_code_value), .val (.int (0 : Int32))] [(.int ((112 : Int32) &&& (255 : Int32)))]) _
    rw [(by decide : ((112 : Int32) &&& (255 : Int32)) = (112 : Int32))]
    show own_S p e below T122 (mkF m 13 #[.val (.ref w_PROPOSAL_WEIGHTS_code_value), .val (.int (0 : Int32))] [(.int (112 : Int32))]) _
    refine XS.i2c X122.here hx rfl (hb hby d_jdk_43_method_2_13) rfl ?_
    show own_S p e below T122 (mkF m 14 #[.val (.ref w_PROPOSAL_WEIGHTS_code_value), .val (.int (0 : Int32))] [(.int ((112 : Int32).toUInt32.toUInt16.toUInt32.toInt32))]) _
    rw [(by decide : ((112 : Int32).toUInt32.toUInt16.toUInt32.toInt32) = (112 : Int32))]
    show own_S p e below T122 (mkF m 14 #[.val (.ref w_PROPOSAL_WEIGHTS_code_value), .val (.int (0 : Int32))] [(.int (112 : Int32))]) _
    exact retN X122 hx (t := .char) hret (by simp) (hb hby d_jdk_43_method_2_14) hr
  · show Qrm117 Z w_PROPOSAL_WEIGHTS_code_value cl_w_PROPOSAL_WEIGHTS_code_value w_SIOOBE_FORMATTER h0 _ T122.heap _
    rw [e122]
    exact ⟨rfl, N122, rfl⟩
def Qrm111 (Z : State) (w_PROPOSAL_WEIGHTS_code : Addr) (w_PROPOSAL_WEIGHTS_code_value : Addr) (cl_w_PROPOSAL_WEIGHTS_code_value : Cell) (w_COMPACT_STRINGS : Int32) (w_SIOOBE_FORMATTER : Value) (h0 : Heap) (v : Option Value) (h : Heap) (L : List Loc) : Prop := v = some (.int (112 : Int32)) ∧ Fr Z.heap.size L ∧ h = h0
set_option maxRecDepth 65536 in
set_option maxHeartbeats 40000000 in
theorem rm111 (l : Launch) (Z : State) (a0 : Array Value) (hw : ∀ d ∈ tables_1, d.before a0 Z = true) (ws : List Jvm.Cond) (w_PROPOSAL_WEIGHTS_code : Addr) (w_PROPOSAL_WEIGHTS_code_value : Addr) (cl_w_PROPOSAL_WEIGHTS_code_value : Cell) (w_COMPACT_STRINGS : Int32) (w_SIOOBE_FORMATTER : Value) (h0 : Heap) (Z0 : Ext Z.heap h0) (E_w_PROPOSAL_WEIGHTS_code : Exa Z Z.heap w_PROPOSAL_WEIGHTS_code "java/lang/String") (S_w_COMPACT_STRINGS : Sta Z Z.heap "java/lang/String" "COMPACT_STRINGS" "Z" (.int w_COMPACT_STRINGS)) (F_w_PROPOSAL_WEIGHTS_code_coder : Fld Z Z.heap w_PROPOSAL_WEIGHTS_code "java/lang/String" "coder" "B" (.int (0 : Int32))) (F_w_PROPOSAL_WEIGHTS_code_value : Fld Z Z.heap w_PROPOSAL_WEIGHTS_code "java/lang/String" "value" "[B" (.ref w_PROPOSAL_WEIGHTS_code_value)) (Ar_w_PROPOSAL_WEIGHTS_code_value : Arr Z Z.heap w_PROPOSAL_WEIGHTS_code_value cl_w_PROPOSAL_WEIGHTS_code_value .byte) (Sz_w_PROPOSAL_WEIGHTS_code_value : cl_w_PROPOSAL_WEIGHTS_code_value.slots.size = (16 : Int32).toNatClampNeg) (S_w_SIOOBE_FORMATTER : Sta Z Z.heap "jdk/internal/util/Preconditions" "SIOOBE_FORMATTER" "Ljava/util/function/BiFunction;" w_SIOOBE_FORMATTER) (R_w_SIOOBE_FORMATTER : w_SIOOBE_FORMATTER.isRef = true) (hin_w_PROPOSAL_WEIGHTS_code_value_0 : ¬ ((0 : Int32) < 0 ∨ cl_w_PROPOSAL_WEIGHTS_code_value.slots.size ≤ ((0 : Int32)).toNatClampNeg)) (hat_w_PROPOSAL_WEIGHTS_code_value_0 : cl_w_PROPOSAL_WEIGHTS_code_value.slots[((0 : Int32)).toNatClampNeg]? = some (.int (112 : Int32))) (hc1 : ¬ (w_COMPACT_STRINGS = (0 : Int32))) :
    own_met l y_8 jdk_42_method_56_code 2 (some .char) ws ({ frames := 3, cells := 0, slots := 0, locals := 40 } : Room) Z #[(.ref w_PROPOSAL_WEIGHTS_code), (.int (0 : Int32))] h0 (Qrm111 Z w_PROPOSAL_WEIGHTS_code w_PROPOSAL_WEIGHTS_code_value cl_w_PROPOSAL_WEIGHTS_code_value w_COMPACT_STRINGS w_SIOOBE_FORMATTER h0) := by
  refine own_start (plainFor_of_name pn_1) (fun m => ef_jdk_42_method_56_RI m w_PROPOSAL_WEIGHTS_code (0 : Int32)) ?_
  intro p e s m below meth c s₁ hx hby hml hown hnm X0 hZ e0 hret hlk
  have N0 := Fr.nil Z.heap.size
  obtain ⟨_, T115, Lc115, X115, hQ115, st115⟩ := own_virtual (y := y_4) X0 hx hZ hown (own_w hw 49 rfl) (own_w hw 50 rfl) (own_w hw 52 rfl) (own_w hw 51 rfl) (own_w hw 40 rfl) (own_w hw 53 rfl) (by decide) (rm112 l Z a0 hw [] w_PROPOSAL_WEIGHTS_code w_COMPACT_STRINGS h0 Z0 S_w_COMPACT_STRINGS F_w_PROPOSAL_WEIGHTS_code_coder hc1) (by decide) (by decide) e0 (E_w_PROPOSAL_WEIGHTS_code.ext Z0) (g := (mkF m 1 #[.val (.ref w_PROPOSAL_WEIGHTS_code), .val (.int (0 : Int32))] [(.ref w_PROPOSAL_WEIGHTS_code)])) rfl (by rw [hml]; rfl) (argsL := []) (rest := []) (lenOf pd_0 rfl) rfl rfl (W := 0) (by show 2 * 0 + _ ≤ _; exact Nat.le_of_eq rfl) (hb hby d_jdk_42_method_56_1) (by decide) (by decide)
  obtain ⟨rfl, N115q, e115⟩ := hQ115
  have N115 := Fr.app N0 N115q
  obtain ⟨T116, X116, e116, st116⟩ := getF X115 hx hZ hown (host := "") (Or.inl (own_w hw 42 rfl)) Via.refl e115 (F_w_PROPOSAL_WEIGHTS_code_value.ext Z0) (g := (mkF m 8 #[.val (.ref w_PROPOSAL_WEIGHTS_code), .val (.int (0 : Int32))] [(.ref w_PROPOSAL_WEIGHTS_code)])) rfl rfl (hb hby d_jdk_42_method_56_8)
  obtain ⟨_, T123, Lc123, X123, hQ123, st123⟩ := own_static (y := y_7) X116 hx hZ hown (own_w hw 57 rfl) (own_w hw 58 rfl) (own_w hw 59 rfl) (own_w hw 60 rfl) (by decide) (rm117 l Z a0 hw [] w_PROPOSAL_WEIGHTS_code_value cl_w_PROPOSAL_WEIGHTS_code_value w_SIOOBE_FORMATTER h0 Z0 Ar_w_PROPOSAL_WEIGHTS_code_value Sz_w_PROPOSAL_WEIGHTS_code_value S_w_SIOOBE_FORMATTER R_w_SIOOBE_FORMATTER hin_w_PROPOSAL_WEIGHTS_code_value_0 hat_w_PROPOSAL_WEIGHTS_code_value_0) (by decide) (by decide) e116 (g := (mkF m 12 #[.val (.ref w_PROPOSAL_WEIGHTS_code), .val (.int (0 : Int32))] [(.int (0 : Int32)), (.ref w_PROPOSAL_WEIGHTS_code_value)])) rfl (by rw [hml]; rfl) (argsL := [(.ref w_PROPOSAL_WEIGHTS_code_value), (.int (0 : Int32))]) (rest := []) (lenOf pd_5 rfl) rfl rfl (W := 0) (by show 2 * 0 + _ ≤ _; exact Nat.le_of_eq rfl) (hb hby d_jdk_42_method_56_12) (by decide) (by decide)
  obtain ⟨rfl, N123q, e123⟩ := hQ123
  have N123 := Fr.app N115 N123q
  obtain ⟨fs, hr, hrun, hended, hW, hsame⟩ := X123.leave (v := some (.int (112 : Int32))) (fun h => by rw [hret] at h; cases h) hlk
  refine ⟨_, _, ?_, hrun, hended, _, _, rfl, ?_, ⟨_, rfl⟩, hW, hsame.mono (by decide) (by decide)⟩
  · show own_S p e below s₁ (mkF m 0 #[.val (.ref w_PROPOSAL_WEIGHTS_code), .val (.int (0 : Int32))] []) _
    refine XS.aloadN X0.here hx rfl (hb hby d_jdk_42_method_56_0) rfl rfl ?_
    show own_S p e below s₁ (mkF m 1 #[.val (.ref w_PROPOSAL_WEIGHTS_code), .val (.int (0 : Int32))] [(.ref w_PROPOSAL_WEIGHTS_code)]) _
    refine st115 _ ?_
    show own_S p e below T115 (mkF m 4 #[.val (.ref w_PROPOSAL_WEIGHTS_code), .val (.int (0 : Int32))] [(.int (1 : Int32))]) _
    refine XS.ifNo X115.here hx rfl (hb hby d_jdk_42_method_56_4) rfl ((if0 _ _).trans (feq (by decide : ¬ ((1 : Int32) = (0 : Int32)))).1) ?_
    show own_S p e below T115 (mkF m 7 #[.val (.ref w_PROPOSAL_WEIGHTS_code), .val (.int (0 : Int32))] []) _
    refine XS.aloadN X115.here hx rfl (hb hby d_jdk_42_method_56_7) rfl rfl ?_
    show own_S p e below T115 (mkF m 8 #[.val (.ref w_PROPOSAL_WEIGHTS_code), .val (.int (0 : Int32))] [(.ref w_PROPOSAL_WEIGHTS_code)]) _
    refine st116 _ ?_
    show own_S p e below T116 (mkF m 11 #[.val (.ref w_PROPOSAL_WEIGHTS_code), .val (.int (0 : Int32))] [(.ref w_PROPOSAL_WEIGHTS_code_value)]) _
    refine XS.iloadN X116.here hx rfl (hb hby d_jdk_42_method_56_11) rfl ?_
    show own_S p e below T116 (mkF m 12 #[.val (.ref w_PROPOSAL_WEIGHTS_code), .val (.int (0 : Int32))] [(.int (0 : Int32)), (.ref w_PROPOSAL_WEIGHTS_code_value)]) _
    refine st123 _ ?_
    show own_S p e below T123 (mkF m 15 #[.val (.ref w_PROPOSAL_WEIGHTS_code), .val (.int (0 : Int32))] [(.int (112 : Int32))]) _
    exact retN X123 hx (t := .char) hret (by simp) (hb hby d_jdk_42_method_56_15) hr
  · show Qrm111 Z w_PROPOSAL_WEIGHTS_code w_PROPOSAL_WEIGHTS_code_value cl_w_PROPOSAL_WEIGHTS_code_value w_COMPACT_STRINGS w_SIOOBE_FORMATTER h0 _ T123.heap _
    rw [e123]
    exact ⟨rfl, N123, rfl⟩
def Qrm0_2 (Z : State) (w_BID : Addr) (w_PROPOSAL_POINTS : Addr) (w_PROPOSAL_WEIGHTS : Addr) (w_TOP_OFFEROR : Addr) (w_IDENTICAL_TOP_SCORES : Addr) (w_PROPOSAL_WEIGHTS_code : Addr) (w_PROPOSAL_WEIGHTS_code_value : Addr) (cl_w_PROPOSAL_WEIGHTS_code_value : Cell) (w_COMPACT_STRINGS : Int32) (w_SIOOBE_FORMATTER : Value) (p1 : Int32) (h0 : Heap) (v : Option Value) (h : Heap) (L : List Loc) : Prop := v = some (.int 1) ∧ Fr Z.heap.size L
set_option maxRecDepth 65536 in
set_option maxHeartbeats 40000000 in
theorem rm0_2 (l : Launch) (Z : State) (a0 : Array Value) (hw : ∀ d ∈ tables_1, d.before a0 Z = true) (ws : List Jvm.Cond) (w_BID : Addr) (w_PROPOSAL_POINTS : Addr) (w_PROPOSAL_WEIGHTS : Addr) (w_TOP_OFFEROR : Addr) (w_IDENTICAL_TOP_SCORES : Addr) (w_PROPOSAL_WEIGHTS_code : Addr) (w_PROPOSAL_WEIGHTS_code_value : Addr) (cl_w_PROPOSAL_WEIGHTS_code_value : Cell) (w_COMPACT_STRINGS : Int32) (w_SIOOBE_FORMATTER : Value) (p1 : Int32) (h0 : Heap) (Z0 : Ext Z.heap h0) (S_w_BID : Sta Z Z.heap "com/example/zia_tally/ziatally/evaluation/Method" "BID" "Lcom/example/zia_tally/ziatally/evaluation/Method;" (.ref w_BID)) (E_w_BID : Exa Z Z.heap w_BID "com/example/zia_tally/ziatally/evaluation/Method") (S_w_PROPOSAL_POINTS : Sta Z Z.heap "com/example/zia_tally/ziatally/evaluation/Method" "PROPOSAL_POINTS" "Lcom/example/zia_tally/ziatally/evaluation/Method;" (.ref w_PROPOSAL_POINTS)) (E_w_PROPOSAL_POINTS : Exa Z Z.heap w_PROPOSAL_POINTS "com/example/zia_tally/ziatally/evaluation/Method") (S_w_PROPOSAL_WEIGHTS : Sta Z Z.heap "com/example/zia_tally/ziatally/evaluation/Method" "PROPOSAL_WEIGHTS" "Lcom/example/zia_tally/ziatally/evaluation/Method;" (.ref w_PROPOSAL_WEIGHTS)) (E_w_PROPOSAL_WEIGHTS : Exa Z Z.heap w_PROPOSAL_WEIGHTS "com/example/zia_tally/ziatally/evaluation/Method") (F_w_PROPOSAL_WEIGHTS_single : Fld Z Z.heap w_PROPOSAL_WEIGHTS "com/example/zia_tally/ziatally/evaluation/Method" "single" "Lcom/example/zia_tally/ziatally/evaluation/Outcome;" (.ref w_TOP_OFFEROR)) (F_w_PROPOSAL_WEIGHTS_tied : Fld Z Z.heap w_PROPOSAL_WEIGHTS "com/example/zia_tally/ziatally/evaluation/Method" "tied" "Lcom/example/zia_tally/ziatally/evaluation/Outcome;" (.ref w_IDENTICAL_TOP_SCORES)) (F_w_PROPOSAL_WEIGHTS_code : Fld Z Z.heap w_PROPOSAL_WEIGHTS "com/example/zia_tally/ziatally/evaluation/Method" "code" "Ljava/lang/String;" (.ref w_PROPOSAL_WEIGHTS_code)) (E_w_PROPOSAL_WEIGHTS_code : Exa Z Z.heap w_PROPOSAL_WEIGHTS_code "java/lang/String") (F_w_PROPOSAL_WEIGHTS_code_value : Fld Z Z.heap w_PROPOSAL_WEIGHTS_code "java/lang/String" "value" "[B" (.ref w_PROPOSAL_WEIGHTS_code_value)) (Ar_w_PROPOSAL_WEIGHTS_code_value : Arr Z Z.heap w_PROPOSAL_WEIGHTS_code_value cl_w_PROPOSAL_WEIGHTS_code_value .byte) (Sz_w_PROPOSAL_WEIGHTS_code_value : cl_w_PROPOSAL_WEIGHTS_code_value.slots.size = (16 : Int32).toNatClampNeg) (S_w_COMPACT_STRINGS : Sta Z Z.heap "java/lang/String" "COMPACT_STRINGS" "Z" (.int w_COMPACT_STRINGS)) (F_w_PROPOSAL_WEIGHTS_code_coder : Fld Z Z.heap w_PROPOSAL_WEIGHTS_code "java/lang/String" "coder" "B" (.int (0 : Int32))) (S_w_SIOOBE_FORMATTER : Sta Z Z.heap "jdk/internal/util/Preconditions" "SIOOBE_FORMATTER" "Ljava/util/function/BiFunction;" w_SIOOBE_FORMATTER) (R_w_SIOOBE_FORMATTER : w_SIOOBE_FORMATTER.isRef = true) (hin_w_PROPOSAL_WEIGHTS_code_value_0 : ¬ ((0 : Int32) < 0 ∨ cl_w_PROPOSAL_WEIGHTS_code_value.slots.size ≤ ((0 : Int32)).toNatClampNeg)) (hat_w_PROPOSAL_WEIGHTS_code_value_0 : cl_w_PROPOSAL_WEIGHTS_code_value.slots[((0 : Int32)).toNatClampNeg]? = some (.int (112 : Int32))) (S_w_TOP_OFFEROR : Sta Z Z.heap "com/example/zia_tally/ziatally/evaluation/Outcome" "TOP_OFFEROR" "Lcom/example/zia_tally/ziatally/evaluation/Outcome;" (.ref w_TOP_OFFEROR)) (S_w_IDENTICAL_TOP_SCORES : Sta Z Z.heap "com/example/zia_tally/ziatally/evaluation/Outcome" "IDENTICAL_TOP_SCORES" "Lcom/example/zia_tally/ziatally/evaluation/Outcome;" (.ref w_IDENTICAL_TOP_SCORES)) (hc7 : ((p1 &&& (2147483647 : Int32)) % (3 : Int32)) = (2 : Int32)) (hc8 : ¬ (w_PROPOSAL_WEIGHTS = w_BID)) (hc1 : ¬ (w_COMPACT_STRINGS = (0 : Int32))) :
    own_met l x code maxLocals ret ws room_1 Z #[(.int p1)] h0 (Qrm0_2 Z w_BID w_PROPOSAL_POINTS w_PROPOSAL_WEIGHTS w_TOP_OFFEROR w_IDENTICAL_TOP_SCORES w_PROPOSAL_WEIGHTS_code w_PROPOSAL_WEIGHTS_code_value cl_w_PROPOSAL_WEIGHTS_code_value w_COMPACT_STRINGS w_SIOOBE_FORMATTER p1 h0) := by
  refine own_start (plainFor_of_name pn_4) (fun m => ef_code_I m p1) ?_
  intro p e s m below meth c s₁ hx hby hml hown hnm X0 hZ e0 hret hlk
  have N0 := Fr.nil Z.heap.size
  obtain ⟨T85, h85, k85, X85, e85, E85, A85, O85, st85⟩ := newR X0 hx hZ hown (own_w hw 0 rfl) (own_w hw 1 rfl) e0 (g := (mkF m 1 #[.val (.int p1), .unset, .unset, .unset, .unset, .unset, .unset, .unset, .unset, .unset, .unset, .unset] [(.int (3 : Int32))])) rfl (hb hby at_1) rfl (by decide) (cap := 3) (by decide) (by decide) (by decide) (by decide)
  obtain ⟨b85, g85⟩ : ∃ z, z = h0.size := ⟨_, rfl⟩
  rw [← g85] at A85 st85
  have g_b85 : Z.heap.size ≤ b85 := Nat.le_trans Z0.1 (Nat.le_of_eq g85.symm)
  have sz_b85 : h0.size ≤ b85 := Nat.le_trans (Keep.refl h0 []).1 (Nat.le_of_eq g85.symm)
  have V_b85 : Arv Z h85 b85 k85 (.object "com/example/zia_tally/ziatally/evaluation/Method") (3 : Int32) [.null, .null, .null] .null := (Arv.new A85 (by decide)).pad (pad_rep [] .null 3)
  have K85 : Keep h0 h85 [] := (Keep.refl h0 []).ext E85
  have XX85 : Ext Z.heap h85 := own_ext2 Z0 E85
  obtain ⟨T86, X86, e86, st86⟩ := getS2 X85 hx hZ hown (host := "") (Or.inl (own_w hw 2 rfl)) Via.refl e85 (S_w_BID.ext XX85) (g := (mkF m 6 #[.val (.int p1), .unset, .unset, .unset, .unset, .unset, .unset, .unset, .unset, .unset, .unset, .unset] [(.int (0 : Int32)), (.ref b85), (.ref b85)])) rfl (hb hby at_6)
  obtain ⟨cl87, Ar87, q87, S87, Nn87, H87, G87⟩ := V_b85
  have hin87 : ¬ ((0 : Int32) < 0 ∨ cl87.slots.size ≤ ((0 : Int32)).toNatClampNeg) := inb_of S87 ⟨by decide, by decide⟩
  obtain ⟨T88, h88, X88, e88, W88, st88⟩ := stR X86 hx hZ e86 Ar87 (j := (0 : Int32)) hin87 rfl (Sto.ofV Ar87 q87 O85 (Ins.self (E_w_BID.ext XX85))) (g := (mkF m 9 #[.val (.int p1), .unset, .unset, .unset, .unset, .unset, .unset, .unset, .unset, .unset, .unset, .unset] [(.ref w_BID), (.int (0 : Int32)), (.ref b85), (.ref b85)])) rfl rfl (hb hby at_9)
  have V88 : Arv Z h88 b85 k85 (.object "com/example/zia_tally/ziatally/evaluation/Method") (3 : Int32) [(.ref w_BID), .null, .null] .null := Arv.set Ar87 q87 S87 Nn87 H87 G87 rfl W88 0 rfl (Nat.le_of_ble_eq_true rfl)
  have K88 : Keep h0 h88 [] := K85.wr W88 (Or.inr sz_b85)
  have XX88 : Ext Z.heap h88 := own_extW XX85 W88 g_b85
  have N88 := Fr.snoc X88 N0 g_b85
  obtain ⟨T89, X89, e89, st89⟩ := getS2 X88 hx hZ hown (host := "") (Or.inl (own_w hw 6 rfl)) Via.refl e88 (S_w_PROPOSAL_POINTS.ext XX88) (g := (mkF m 12 #[.val (.int p1), .unset, .unset, .unset, .unset, .unset, .unset, .unset, .unset, .unset, .unset, .unset] [(.int (1 : Int32)), (.ref b85), (.ref b85)])) rfl (hb hby at_12)
  obtain ⟨cl90, Ar90, q90, S90, Nn90, H90, G90⟩ := V88
  have hin90 : ¬ ((1 : Int32) < 0 ∨ cl90.slots.size ≤ ((1 : Int32)).toNatClampNeg) := inb_of S90 ⟨by decide, by decide⟩
  obtain ⟨T91, h91, X91, e91, W91, st91⟩ := stR X89 hx hZ e89 Ar90 (j := (1 : Int32)) hin90 rfl (Sto.ofV Ar90 q90 O85 (Ins.self (E_w_PROPOSAL_POINTS.ext XX88))) (g := (mkF m 15 #[.val (.int p1), .unset, .unset, .unset, .unset, .unset, .unset, .unset, .unset, .unset, .unset, .unset] [(.ref w_PROPOSAL_POINTS), (.int (1 : Int32)), (.ref b85), (.ref b85)])) rfl rfl (hb hby at_15)
  have V91 : Arv Z h91 b85 k85 (.object "com/example/zia_tally/ziatally/evaluation/Method") (3 : Int32) [(.ref w_BID), (.ref w_PROPOSAL_POINTS), .null] .null := Arv.set Ar90 q90 S90 Nn90 H90 G90 rfl W91 1 rfl (Nat.le_of_ble_eq_true rfl)
  have K91 : Keep h0 h91 [] := K88.wr W91 (Or.inr sz_b85)
  have XX91 : Ext Z.heap h91 := own_extW XX88 W91 g_b85
  have N91 := Fr.snoc X91 N88 g_b85
  obtain ⟨T92, X92, e92, st92⟩ := getS2 X91 hx hZ hown (host := "") (Or.inl (own_w hw 8 rfl)) Via.refl e91 (S_w_PROPOSAL_WEIGHTS.ext XX91) (g := (mkF m 18 #[.val (.int p1), .unset, .unset, .unset, .unset, .unset, .unset, .unset, .unset, .unset, .unset, .unset] [(.int (2 : Int32)), (.ref b85), (.ref b85)])) rfl (hb hby at_18)
  obtain ⟨cl93, Ar93, q93, S93, Nn93, H93, G93⟩ := V91
  have hin93 : ¬ ((2 : Int32) < 0 ∨ cl93.slots.size ≤ ((2 : Int32)).toNatClampNeg) := inb_of S93 ⟨by decide, by decide⟩
  obtain ⟨T94, h94, X94, e94, W94, st94⟩ := stR X92 hx hZ e92 Ar93 (j := (2 : Int32)) hin93 rfl (Sto.ofV Ar93 q93 O85 (Ins.self (E_w_PROPOSAL_WEIGHTS.ext XX91))) (g := (mkF m 21 #[.val (.int p1), .unset, .unset, .unset, .unset, .unset, .unset, .unset, .unset, .unset, .unset, .unset] [(.ref w_PROPOSAL_WEIGHTS), (.int (2 : Int32)), (.ref b85), (.ref b85)])) rfl rfl (hb hby at_21)
  have V94 : Arv Z h94 b85 k85 (.object "com/example/zia_tally/ziatally/evaluation/Method") (3 : Int32) [(.ref w_BID), (.ref w_PROPOSAL_POINTS), (.ref w_PROPOSAL_WEIGHTS)] .null := Arv.set Ar93 q93 S93 Nn93 H93 G93 rfl W94 2 rfl (Nat.le_of_ble_eq_true rfl)
  have K94 : Keep h0 h94 [] := K91.wr W94 (Or.inr sz_b85)
  have XX94 : Ext Z.heap h94 := own_extW XX91 W94 g_b85
  have N94 := Fr.snoc X94 N91 g_b85
  obtain ⟨cl95, Ar95, q95, S95, Nn95, H95, G95⟩ := V94
  have hin95 : ¬ ((2 : Int32) < 0 ∨ cl95.slots.size ≤ ((2 : Int32)).toNatClampNeg) := inb_of S95 ⟨by decide, by decide⟩
  have hat95 : cl95.slots[((2 : Int32)).toNatClampNeg]? = some (.ref w_PROPOSAL_WEIGHTS) := Has.at H95 hin95 rfl
  obtain ⟨_, T98, Lc98, X98, hQ98, st98⟩ := own_virtual (y := y_0) X94 hx hZ hown (own_w hw 11 rfl) (own_w hw 12 rfl) (own_w hw 14 rfl) (own_w hw 13 rfl) (own_w hw 3 rfl) (own_w hw 15 rfl) (by decide) (rm96 l Z a0 hw [] w_BID w_PROPOSAL_WEIGHTS h94 XX94 S_w_BID hc8) (by decide) (by decide) e94 (E_w_PROPOSAL_WEIGHTS.ext XX94) (g := (mkF m 35 #[.val (.int p1), .val (.ref b85), .val (.int (2 : Int32)), .val (.ref w_PROPOSAL_WEIGHTS), .unset, .unset, .unset, .unset, .unset, .unset, .unset, .unset] [(.ref w_PROPOSAL_WEIGHTS)])) rfl (by rw [hml]; rfl) (argsL := []) (rest := []) (lenOf pd_0 rfl) rfl rfl (W := 0) (by show 2 * 0 + _ ≤ _; exact Nat.le_of_eq rfl) (hb hby at_35) (by decide) (by decide)
  obtain ⟨rfl, N98q, e98⟩ := hQ98
  have N98 := Fr.app N94 N98q
  obtain ⟨_, T101, Lc101, X101, hQ101, st101⟩ := own_virtual (y := y_1) X98 hx hZ hown (own_w hw 17 rfl) (own_w hw 18 rfl) (own_w hw 20 rfl) (own_w hw 19 rfl) (own_w hw 3 rfl) (own_w hw 21 rfl) (by decide) (rm99 l Z a0 hw [] w_PROPOSAL_WEIGHTS w_TOP_OFFEROR h94 XX94 F_w_PROPOSAL_WEIGHTS_single) (by decide) (by decide) e98 (E_w_PROPOSAL_WEIGHTS.ext XX94) (g := (mkF m 53 #[.val (.int p1), .val (.ref b85), .val (.int (2 : Int32)), .val (.ref w_PROPOSAL_WEIGHTS), .val (.int (1 : Int32)), .val (.int (1 : Int32)), .unset, .unset, .unset, .unset, .unset, .unset] [(.int (0 : Int32)), (.ref w_PROPOSAL_WEIGHTS)])) rfl (by rw [hml]; rfl) (argsL := [(.int (0 : Int32))]) (rest := []) (lenOf pd_1 rfl) rfl rfl (W := 0) (by show 2 * 0 + _ ≤ _; exact Nat.le_of_eq rfl) (hb hby at_53) (by decide) (by decide)
  obtain ⟨rfl, N101q, e101⟩ := hQ101
  have N101 := Fr.app N98 N101q
  obtain ⟨_, T104, Lc104, X104, hQ104, st104⟩ := own_virtual (y := y_1) X101 hx hZ hown (own_w hw 17 rfl) (own_w hw 18 rfl) (own_w hw 20 rfl) (own_w hw 19 rfl) (own_w hw 3 rfl) (own_w hw 21 rfl) (by decide) (rm102 l Z a0 hw [] w_PROPOSAL_WEIGHTS w_IDENTICAL_TOP_SCORES h94 XX94 F_w_PROPOSAL_WEIGHTS_tied) (by decide) (by decide) e101 (E_w_PROPOSAL_WEIGHTS.ext XX94) (g := (mkF m 60 #[.val (.int p1), .val (.ref b85), .val (.int (2 : Int32)), .val (.ref w_PROPOSAL_WEIGHTS), .val (.int (1 : Int32)), .val (.int (1 : Int32)), .val (.ref w_TOP_OFFEROR), .unset, .unset, .unset, .unset, .unset] [(.int (1 : Int32)), (.ref w_PROPOSAL_WEIGHTS)])) rfl (by rw [hml]; rfl) (argsL := [(.int (1 : Int32))]) (rest := []) (lenOf pd_1 rfl) rfl rfl (W := 0) (by show 2 * 0 + _ ≤ _; exact Nat.le_of_eq rfl) (hb hby at_60) (by decide) (by decide)
  obtain ⟨rfl, N104q, e104⟩ := hQ104
  have N104 := Fr.app N101 N104q
  obtain ⟨_, T107, Lc107, X107, hQ107, st107⟩ := own_virtual (y := y_2) X104 hx hZ hown (own_w hw 29 rfl) (own_w hw 30 rfl) (own_w hw 32 rfl) (own_w hw 31 rfl) (own_w hw 3 rfl) (own_w hw 33 rfl) (by decide) (rm105 l Z a0 hw [] w_PROPOSAL_WEIGHTS w_PROPOSAL_WEIGHTS_code h94 XX94 F_w_PROPOSAL_WEIGHTS_code) (by decide) (by decide) e104 (E_w_PROPOSAL_WEIGHTS.ext XX94) (g := (mkF m 66 #[.val (.int p1), .val (.ref b85), .val (.int (2 : Int32)), .val (.ref w_PROPOSAL_WEIGHTS), .val (.int (1 : Int32)), .val (.int (1 : Int32)), .val (.ref w_TOP_OFFEROR), .val (.ref w_IDENTICAL_TOP_SCORES), .unset, .unset, .unset, .unset] [(.ref w_PROPOSAL_WEIGHTS)])) rfl (by rw [hml]; rfl) (argsL := []) (rest := []) (lenOf pd_2 rfl) rfl rfl (W := 0) (by show 2 * 0 + _ ≤ _; exact Nat.le_of_eq rfl) (hb hby at_66) (by decide) (by decide)
  obtain ⟨rfl, N107q, e107⟩ := hQ107
  have N107 := Fr.app N104 N107q
  obtain ⟨_, T110, Lc110, X110, hQ110, st110⟩ := own_virtual (y := y_3) X107 hx hZ hown (own_w hw 36 rfl) (own_w hw 37 rfl) (own_w hw 39 rfl) (own_w hw 38 rfl) (own_w hw 40 rfl) (own_w hw 41 rfl) (by decide) (rm108 l Z a0 hw [] w_PROPOSAL_WEIGHTS_code w_PROPOSAL_WEIGHTS_code_value cl_w_PROPOSAL_WEIGHTS_code_value h94 XX94 F_w_PROPOSAL_WEIGHTS_code_value Ar_w_PROPOSAL_WEIGHTS_code_value Sz_w_PROPOSAL_WEIGHTS_code_value) (by decide) (by decide) e107 (E_w_PROPOSAL_WEIGHTS_code.ext XX94) (g := (mkF m 73 #[.val (.int p1), .val (.ref b85), .val (.int (2 : Int32)), .val (.ref w_PROPOSAL_WEIGHTS), .val (.int (1 : Int32)), .val (.int (1 : Int32)), .val (.ref w_TOP_OFFEROR), .val (.ref w_IDENTICAL_TOP_SCORES), .val (.ref w_PROPOSAL_WEIGHTS_code), .unset, .unset, .unset] [(.ref w_PROPOSAL_WEIGHTS_code)])) rfl (by rw [hml]; rfl) (argsL := []) (rest := []) (lenOf pd_0 rfl) rfl rfl (W := 0) (by show 2 * 0 + _ ≤ _; exact Nat.le_of_eq rfl) (hb hby at_73) (by decide) (by decide)
  obtain ⟨rfl, N110q, e110⟩ := hQ110
  have N110 := Fr.app N107 N110q
  obtain ⟨_, T124, Lc124, X124, hQ124, st124⟩ := own_virtual (y := y_8) X110 hx hZ hown (own_w hw 44 rfl) (own_w hw 45 rfl) (own_w hw 47 rfl) (own_w hw 46 rfl) (own_w hw 40 rfl) (own_w hw 48 rfl) (by decide) (rm111 l Z a0 hw [] w_PROPOSAL_WEIGHTS_code w_PROPOSAL_WEIGHTS_code_value cl_w_PROPOSAL_WEIGHTS_code_value w_COMPACT_STRINGS w_SIOOBE_FORMATTER h94 XX94 E_w_PROPOSAL_WEIGHTS_code S_w_COMPACT_STRINGS F_w_PROPOSAL_WEIGHTS_code_coder F_w_PROPOSAL_WEIGHTS_code_value Ar_w_PROPOSAL_WEIGHTS_code_value Sz_w_PROPOSAL_WEIGHTS_code_value S_w_SIOOBE_FORMATTER R_w_SIOOBE_FORMATTER hin_w_PROPOSAL_WEIGHTS_code_value_0 hat_w_PROPOSAL_WEIGHTS_code_value_0 hc1) (by decide) (by decide) e110 (E_w_PROPOSAL_WEIGHTS_code.ext XX94) (g := (mkF m 82 #[.val (.int p1), .val (.ref b85), .val (.int (2 : Int32)), .val (.ref w_PROPOSAL_WEIGHTS), .val (.int (1 : Int32)), .val (.int (1 : Int32)), .val (.ref w_TOP_OFFEROR), .val (.ref w_IDENTICAL_TOP_SCORES), .val (.ref w_PROPOSAL_WEIGHTS_code), .unset, .unset, .unset] [(.int (0 : Int32)), (.ref w_PROPOSAL_WEIGHTS_code)])) rfl (by rw [hml]; rfl) (argsL := [(.int (0 : Int32))]) (rest := []) (lenOf pd_6 rfl) rfl rfl (W := 0) (by show 2 * 0 + _ ≤ _; exact Nat.le_of_eq rfl) (hb hby at_82) (by decide) (by decide)
  obtain ⟨rfl, N124q, e124⟩ := hQ124
  have N124 := Fr.app N110 N124q
  obtain ⟨T125, X125, e125, st125⟩ := getS2 X124 hx hZ hown (host := "") (Or.inl (own_w hw 69 rfl)) Via.refl e124 (S_w_TOP_OFFEROR.ext XX94) (g := (mkF m 99 #[.val (.int p1), .val (.ref b85), .val (.int (2 : Int32)), .val (.ref w_PROPOSAL_WEIGHTS), .val (.int (1 : Int32)), .val (.int (1 : Int32)), .val (.ref w_TOP_OFFEROR), .val (.ref w_IDENTICAL_TOP_SCORES), .val (.ref w_PROPOSAL_WEIGHTS_code), .val (.int (1 : Int32)), .unset, .unset] [(.ref w_TOP_OFFEROR)])) rfl (hb hby at_99)
  obtain ⟨T126, X126, e126, st126⟩ := getS2 X125 hx hZ hown (host := "") (Or.inl (own_w hw 71 rfl)) Via.refl e125 (S_w_IDENTICAL_TOP_SCORES.ext XX94) (g := (mkF m 114 #[.val (.int p1), .val (.ref b85), .val (.int (2 : Int32)), .val (.ref w_PROPOSAL_WEIGHTS), .val (.int (1 : Int32)), .val (.int (1 : Int32)), .val (.ref w_TOP_OFFEROR), .val (.ref w_IDENTICAL_TOP_SCORES), .val (.ref w_PROPOSAL_WEIGHTS_code), .val (.int (1 : Int32)), .val (.int (1 : Int32)), .unset] [(.ref w_IDENTICAL_TOP_SCORES)])) rfl (hb hby at_114)
  obtain ⟨fs, hr, hrun, hended, hW, hsame⟩ := X126.leave (v := some (.int (1 : Int32))) (fun h => by rw [hret] at h; cases h) hlk
  refine ⟨_, _, ?_, hrun, hended, _, _, rfl, ?_, ⟨_, rfl⟩, hW, hsame.mono (by decide) (by decide)⟩
  · show own_S p e below s₁ (mkF m 0 #[.val (.int p1), .unset, .unset, .unset, .unset, .unset, .unset, .unset, .unset, .unset, .unset, .unset] []) _
    refine XS.iconst X0.here hx rfl (hb hby at_0) ?_
    show own_S p e below s₁ (mkF m 1 #[.val (.int p1), .unset, .unset, .unset, .unset, .unset, .unset, .unset, .unset, .unset, .unset, .unset] [(.int (3 : Int32))]) _
    refine st85 _ ?_
    show own_S p e below T85 (mkF m 4 #[.val (.int p1), .unset, .unset, .unset, .unset, .unset, .unset, .unset, .unset, .unset, .unset, .unset] [(.ref b85)]) _
    refine XS.dup X85.here hx rfl (hb hby at_4) rfl rfl ?_
    show own_S p e below T85 (mkF m 5 #[.val (.int p1), .unset, .unset, .unset, .unset, .unset, .unset, .unset, .unset, .unset, .unset, .unset] [(.ref b85), (.ref b85)]) _
    refine XS.iconst X85.here hx rfl (hb hby at_5) ?_
    show own_S p e below T85 (mkF m 6 #[.val (.int p1), .unset, .unset, .unset, .unset, .unset, .unset, .unset, .unset, .unset, .unset, .unset] [(.int (0 : Int32)), (.ref b85), (.ref b85)]) _
    refine st86 _ ?_
    show own_S p e below T86 (mkF m 9 #[.val (.int p1), .unset, .unset, .unset, .unset, .unset, .unset, .unset, .unset, .unset, .unset, .unset] [(.ref w_BID), (.int (0 : Int32)), (.ref b85), (.ref b85)]) _
    refine st88 _ ?_
    show own_S p e below T88 (mkF m 10 #[.val (.int p1), .unset, .unset, .unset, .unset, .unset, .unset, .unset, .unset, .unset, .unset, .unset] [(.ref b85)]) _
    refine XS.dup X88.here hx rfl (hb hby at_10) rfl rfl ?_
    show own_S p e below T88 (mkF m 11 #[.val (.int p1), .unset, .unset, .unset, .unset, .unset, .unset, .unset, .unset, .unset, .unset, .unset] [(.ref b85), (.ref b85)]) _
    refine XS.iconst X88.here hx rfl (hb hby at_11) ?_
    show own_S p e below T88 (mkF m 12 #[.val (.int p1), .unset, .unset, .unset, .unset, .unset, .unset, .unset, .unset, .unset, .unset, .unset] [(.int (1 : Int32)), (.ref b85), (.ref b85)]) _
    refine st89 _ ?_
    show own_S p e below T89 (mkF m 15 #[.val (.int p1), .unset, .unset, .unset, .unset, .unset, .unset, .unset, .unset, .unset, .unset, .unset] [(.ref w_PROPOSAL_POINTS), (.int (1 : Int32)), (.ref b85), (.ref b85)]) _
    refine st91 _ ?_
    show own_S p e below T91 (mkF m 16 #[.val (.int p1), .unset, .unset, .unset, .unset, .unset, .unset, .unset, .unset, .unset, .unset, .unset] [(.ref b85)]) _
    refine XS.dup X91.here hx rfl (hb hby at_16) rfl rfl ?_
    show own_S p e below T91 (mkF m 17 #[.val (.int p1), .unset, .unset, .unset, .unset, .unset, .unset, .unset, .unset, .unset, .unset, .unset] [(.ref b85), (.ref b85)]) _
    refine XS.iconst X91.here hx rfl (hb hby at_17) ?_
    show own_S p e below T91 (mkF m 18 #[.val (.int p1), .unset, .unset, .unset, .unset, .unset, .unset, .unset, .unset, .unset, .unset, .unset] [(.int (2 : Int32)), (.ref b85), (.ref b85)]) _
    refine st92 _ ?_
    show own_S p e below T92 (mkF m 21 #[.val (.int p1), .unset, .unset, .unset, .unset, .unset, .unset, .unset, .unset, .unset, .unset, .unset] [(.ref w_PROPOSAL_WEIGHTS), (.int (2 : Int32)), (.ref b85), (.ref b85)]) _
    refine st94 _ ?_
    show own_S p e below T94 (mkF m 22 #[.val (.int p1), .unset, .unset, .unset, .unset, .unset, .unset, .unset, .unset, .unset, .unset, .unset] [(.ref b85)]) _
    refine XS.astoreN X94.here hx rfl (hb hby at_22) rfl rfl (l' := #[.val (.int p1), .val (.ref b85), .unset, .unset, .unset, .unset, .unset, .unset, .unset, .unset, .unset, .unset]) rfl ?_
    show own_S p e below T94 (mkF m 23 #[.val (.int p1), .val (.ref b85), .unset, .unset, .unset, .unset, .unset, .unset, .unset, .unset, .unset, .unset] []) _
    refine XS.iloadN X94.here hx rfl (hb hby at_23) rfl ?_
    show own_S p e below T94 (mkF m 24 #[.val (.int p1), .val (.ref b85), .unset, .unset, .unset, .unset, .unset, .unset, .unset, .unset, .unset, .unset] [(.int p1)]) _
    refine X94.ldcInt hx hown (mvT hZ (own_w hw 10 rfl)) (g := (mkF m 24 #[.val (.int p1), .val (.ref b85), .unset, .unset, .unset, .unset, .unset, .unset, .unset, .unset, .unset, .unset] [(.int p1)])) rfl (hb hby at_24) _ ?_
    show own_S p e below T94 (mkF m 26 #[.val (.int p1), .val (.ref b85), .unset, .unset, .unset, .unset, .unset, .unset, .unset, .unset, .unset, .unset] [(.int (2147483647 : Int32)), (.int p1)]) _
    refine XS.iand X94.here hx rfl (hb hby at_26) rfl ?_
    show own_S p e below T94 (mkF m 27 #[.val (.int p1), .val (.ref b85), .unset, .unset, .unset, .unset, .unset, .unset, .unset, .unset, .unset, .unset] [(.int (p1 &&& (2147483647 : Int32)))]) _
    refine XS.iconst X94.here hx rfl (hb hby at_27) ?_
    show own_S p e below T94 (mkF m 28 #[.val (.int p1), .val (.ref b85), .unset, .unset, .unset, .unset, .unset, .unset, .unset, .unset, .unset, .unset] [(.int (3 : Int32)), (.int (p1 &&& (2147483647 : Int32)))]) _
    refine iremM X94 hx rfl (hb hby at_28) rfl (by decide) ?_
    show own_S p e below T94 (mkF m 29 #[.val (.int p1), .val (.ref b85), .unset, .unset, .unset, .unset, .unset, .unset, .unset, .unset, .unset, .unset] [(.int ((p1 &&& (2147483647 : Int32)) % (3 : Int32)))]) _
    rw [hc7]
    show own_S p e below T94 (mkF m 29 #[.val (.int p1), .val (.ref b85), .unset, .unset, .unset, .unset, .unset, .unset, .unset, .unset, .unset, .unset] [(.int (2 : Int32))]) _
    refine XS.istoreN X94.here hx rfl (hb hby at_29) rfl (l' := #[.val (.int p1), .val (.ref b85), .val (.int (2 : Int32)), .unset, .unset, .unset, .unset, .unset, .unset, .unset, .unset, .unset]) rfl ?_
    show own_S p e below T94 (mkF m 30 #[.val (.int p1), .val (.ref b85), .val (.int (2 : Int32)), .unset, .unset, .unset, .unset, .unset, .unset, .unset, .unset, .unset] []) _
    refine XS.aloadN X94.here hx rfl (hb hby at_30) rfl rfl ?_
    show own_S p e below T94 (mkF m 31 #[.val (.int p1), .val (.ref b85), .val (.int (2 : Int32)), .unset, .unset, .unset, .unset, .unset, .unset, .unset, .unset, .unset] [(.ref b85)]) _
    refine XS.iloadN X94.here hx rfl (hb hby at_31) rfl ?_
    show own_S p e below T94 (mkF m 32 #[.val (.int p1), .val (.ref b85), .val (.int (2 : Int32)), .unset, .unset, .unset, .unset, .unset, .unset, .unset, .unset, .unset] [(.int (2 : Int32)), (.ref b85)]) _
    refine X94.aaload hx (j := (2 : Int32)) (v := (.ref w_PROPOSAL_WEIGHTS)) (by rw [e94]; exact Ar95.1) (State.isArrayOf_alike hZ.alike Ar95.2.1) rfl Ar95.2.2 hin95 hat95 (g := (mkF m 32 #[.val (.int p1), .val (.ref b85), .val (.int (2 : Int32)), .unset, .unset, .unset, .unset, .unset, .unset, .unset, .unset, .unset] [(.int (2 : Int32)), (.ref b85)])) rfl rfl (hb hby at_32) _ ?_
    show own_S p e below T94 (mkF m 33 #[.val (.int p1), .val (.ref b85), .val (.int (2 : Int32)), .unset, .unset, .unset, .unset, .unset, .unset, .unset, .unset, .unset] [(.ref w_PROPOSAL_WEIGHTS)]) _
    refine XS.astoreN X94.here hx rfl (hb hby at_33) rfl rfl (l' := #[.val (.int p1), .val (.ref b85), .val (.int (2 : Int32)), .val (.ref w_PROPOSAL_WEIGHTS), .unset, .unset, .unset, .unset, .unset, .unset, .unset, .unset]) rfl ?_
    show own_S p e below T94 (mkF m 34 #[.val (.int p1), .val (.ref b85), .val (.int (2 : Int32)), .val (.ref w_PROPOSAL_WEIGHTS), .unset, .unset, .unset, .unset, .unset, .unset, .unset, .unset] []) _
    refine XS.aloadN X94.here hx rfl (hb hby at_34) rfl rfl ?_
    show own_S p e below T94 (mkF m 35 #[.val (.int p1), .val (.ref b85), .val (.int (2 : Int32)), .val (.ref w_PROPOSAL_WEIGHTS), .unset, .unset, .unset, .unset, .unset, .unset, .unset, .unset] [(.ref w_PROPOSAL_WEIGHTS)]) _
    refine st98 _ ?_
    show own_S p e below T98 (mkF m 38 #[.val (.int p1), .val (.ref b85), .val (.int (2 : Int32)), .val (.ref w_PROPOSAL_WEIGHTS), .unset, .unset, .unset, .unset, .unset, .unset, .unset, .unset] [(.int (1 : Int32))]) _
    refine XS.istore X98.here hx rfl (hb hby at_38) rfl (l' := #[.val (.int p1), .val (.ref b85), .val (.int (2 : Int32)), .val (.ref w_PROPOSAL_WEIGHTS), .val (.int (1 : Int32)), .unset, .unset, .unset, .unset, .unset, .unset, .unset]) rfl ?_
    show own_S p e below T98 (mkF m 40 #[.val (.int p1), .val (.ref b85), .val (.int (2 : Int32)), .val (.ref w_PROPOSAL_WEIGHTS), .val (.int (1 : Int32)), .unset, .unset, .unset, .unset, .unset, .unset, .unset] []) _
    refine XS.iloadN X98.here hx rfl (hb hby at_40) rfl ?_
    show own_S p e below T98 (mkF m 41 #[.val (.int p1), .val (.ref b85), .val (.int (2 : Int32)), .val (.ref w_PROPOSAL_WEIGHTS), .val (.int (1 : Int32)), .unset, .unset, .unset, .unset, .unset, .unset, .unset] [(.int (2 : Int32))]) _
    refine XS.ifNo X98.here hx rfl (hb hby at_41) rfl ((if0 _ _).trans (feq (by decide : ¬ ((2 : Int32) = (0 : Int32)))).1) ?_
    show own_S p e below T98 (mkF m 44 #[.val (.int p1), .val (.ref b85), .val (.int (2 : Int32)), .val (.ref w_PROPOSAL_WEIGHTS), .val (.int (1 : Int32)), .unset, .unset, .unset, .unset, .unset, .unset, .unset] []) _
    refine XS.iconst X98.here hx rfl (hb hby at_44) ?_
    show own_S p e below T98 (mkF m 45 #[.val (.int p1), .val (.ref b85), .val (.int (2 : Int32)), .val (.ref w_PROPOSAL_WEIGHTS), .val (.int (1 : Int32)), .unset, .unset, .unset, .unset, .unset, .unset, .unset] [(.int (1 : Int32))]) _
    refine XS.goto X98.here hx rfl (pc0 := 45) (pc' := 49) rfl (hb hby at_45) (by decide) (by decide) ?_
    show own_S p e below T98 (mkF m 49 #[.val (.int p1), .val (.ref b85), .val (.int (2 : Int32)), .val (.ref w_PROPOSAL_WEIGHTS), .val (.int (1 : Int32)), .unset, .unset, .unset, .unset, .unset, .unset, .unset] [(.int (1 : Int32))]) _
    refine XS.istore X98.here hx rfl (hb hby at_49) rfl (l' := #[.val (.int p1), .val (.ref b85), .val (.int (2 : Int32)), .val (.ref w_PROPOSAL_WEIGHTS), .val (.int (1 : Int32)), .val (.int (1 : Int32)), .unset, .unset, .unset, .unset, .unset, .unset]) rfl ?_
    show own_S p e below T98 (mkF m 51 #[.val (.int p1), .val (.ref b85), .val (.int (2 : Int32)), .val (.ref w_PROPOSAL_WEIGHTS), .val (.int (1 : Int32)), .val (.int (1 : Int32)), .unset, .unset, .unset, .unset, .unset, .unset] []) _
    refine XS.aloadN X98.here hx rfl (hb hby at_51) rfl rfl ?_
    show own_S p e below T98 (mkF m 52 #[.val (.int p1), .val (.ref b85), .val (.int (2 : Int32)), .val (.ref w_PROPOSAL_WEIGHTS), .val (.int (1 : Int32)), .val (.int (1 : Int32)), .unset, .unset, .unset, .unset, .unset, .unset] [(.ref w_PROPOSAL_WEIGHTS)]) _
    refine XS.iconst X98.here hx rfl (hb hby at_52) ?_
    show own_S p e below T98 (mkF m 53 #[.val (.int p1), .val (.ref b85), .val (.int (2 : Int32)), .val (.ref w_PROPOSAL_WEIGHTS), .val (.int (1 : Int32)), .val (.int (1 : Int32)), .unset, .unset, .unset, .unset, .unset, .unset] [(.int (0 : Int32)), (.ref w_PROPOSAL_WEIGHTS)]) _
    refine st101 _ ?_
    show own_S p e below T101 (mkF m 56 #[.val (.int p1), .val (.ref b85), .val (.int (2 : Int32)), .val (.ref w_PROPOSAL_WEIGHTS), .val (.int (1 : Int32)), .val (.int (1 : Int32)), .unset, .unset, .unset, .unset, .unset, .unset] [(.ref w_TOP_OFFEROR)]) _
    refine XS.astore X101.here hx rfl (hb hby at_56) rfl rfl (l' := #[.val (.int p1), .val (.ref b85), .val (.int (2 : Int32)), .val (.ref w_PROPOSAL_WEIGHTS), .val (.int (1 : Int32)), .val (.int (1 : Int32)), .val (.ref w_TOP_OFFEROR), .unset, .unset, .unset, .unset, .unset]) rfl ?_
    show own_S p e below T101 (mkF m 58 #[.val (.int p1), .val (.ref b85), .val (.int (2 : Int32)), .val (.ref w_PROPOSAL_WEIGHTS), .val (.int (1 : Int32)), .val (.int (1 : Int32)), .val (.ref w_TOP_OFFEROR), .unset, .unset, .unset, .unset, .unset] []) _
    refine XS.aloadN X101.here hx rfl (hb hby at_58) rfl rfl ?_
    show own_S p e below T101 (mkF m 59 #[.val (.int p1), .val (.ref b85), .val (.int (2 : Int32)), .val (.ref w_PROPOSAL_WEIGHTS), .val (.int (1 : Int32)), .val (.int (1 : Int32)), .val (.ref w_TOP_OFFEROR), .unset, .unset, .unset, .unset, .unset] [(.ref w_PROPOSAL_WEIGHTS)]) _
    refine XS.iconst X101.here hx rfl (hb hby at_59) ?_
    show own_S p e below T101 (mkF m 60 #[.val (.int p1), .val (.ref b85), .val (.int (2 : Int32)), .val (.ref w_PROPOSAL_WEIGHTS), .val (.int (1 : Int32)), .val (.int (1 : Int32)), .val (.ref w_TOP_OFFEROR), .unset, .unset, .unset, .unset, .unset] [(.int (1 : Int32)), (.ref w_PROPOSAL_WEIGHTS)]) _
    refine st104 _ ?_
    show own_S p e below T104 (mkF m 63 #[.val (.int p1), .val (.ref b85), .val (.int (2 : Int32)), .val (.ref w_PROPOSAL_WEIGHTS), .val (.int (1 : Int32)), .val (.int (1 : Int32)), .val (.ref w_TOP_OFFEROR), .unset, .unset, .unset, .unset, .unset] [(.ref w_IDENTICAL_TOP_SCORES)]) _
    refine XS.astore X104.here hx rfl (hb hby at_63) rfl rfl (l' := #[.val (.int p1), .val (.ref b85), .val (.int (2 : Int32)), .val (.ref w_PROPOSAL_WEIGHTS), .val (.int (1 : Int32)), .val (.int (1 : Int32)), .val (.ref w_TOP_OFFEROR), .val (.ref w_IDENTICAL_TOP_SCORES), .unset, .unset, .unset, .unset]) rfl ?_
    show own_S p e below T104 (mkF m 65 #[.val (.int p1), .val (.ref b85), .val (.int (2 : Int32)), .val (.ref w_PROPOSAL_WEIGHTS), .val (.int (1 : Int32)), .val (.int (1 : Int32)), .val (.ref w_TOP_OFFEROR), .val (.ref w_IDENTICAL_TOP_SCORES), .unset, .unset, .unset, .unset] []) _
    refine XS.aloadN X104.here hx rfl (hb hby at_65) rfl rfl ?_
    show own_S p e below T104 (mkF m 66 #[.val (.int p1), .val (.ref b85), .val (.int (2 : Int32)), .val (.ref w_PROPOSAL_WEIGHTS), .val (.int (1 : Int32)), .val (.int (1 : Int32)), .val (.ref w_TOP_OFFEROR), .val (.ref w_IDENTICAL_TOP_SCORES), .unset, .unset, .unset, .unset] [(.ref w_PROPOSAL_WEIGHTS)]) _
    refine st107 _ ?_
    show own_S p e below T107 (mkF m 69 #[.val (.int p1), .val (.ref b85), .val (.int (2 : Int32)), .val (.ref w_PROPOSAL_WEIGHTS), .val (.int (1 : Int32)), .val (.int (1 : Int32)), .val (.ref w_TOP_OFFEROR), .val (.ref w_IDENTICAL_TOP_SCORES), .unset, .unset, .unset, .unset] [(.ref w_PROPOSAL_WEIGHTS_code)]) _
    refine XS.astore X107.here hx rfl (hb hby at_69) rfl rfl (l' := #[.val (.int p1), .val (.ref b85), .val (.int (2 : Int32)), .val (.ref w_PROPOSAL_WEIGHTS), .val (.int (1 : Int32)), .val (.int (1 : Int32)), .val (.ref w_TOP_OFFEROR), .val (.ref w_IDENTICAL_TOP_SCORES), .val (.ref w_PROPOSAL_WEIGHTS_code), .unset, .unset, .unset]) rfl ?_
    show own_S p e below T107 (mkF m 71 #[.val (.int p1), .val (.ref b85), .val (.int (2 : Int32)), .val (.ref w_PROPOSAL_WEIGHTS), .val (.int (1 : Int32)), .val (.int (1 : Int32)), .val (.ref w_TOP_OFFEROR), .val (.ref w_IDENTICAL_TOP_SCORES), .val (.ref w_PROPOSAL_WEIGHTS_code), .unset, .unset, .unset] []) _
    refine XS.aload X107.here hx rfl (hb hby at_71) rfl rfl ?_
    show own_S p e below T107 (mkF m 73 #[.val (.int p1), .val (.ref b85), .val (.int (2 : Int32)), .val (.ref w_PROPOSAL_WEIGHTS), .val (.int (1 : Int32)), .val (.int (1 : Int32)), .val (.ref w_TOP_OFFEROR), .val (.ref w_IDENTICAL_TOP_SCORES), .val (.ref w_PROPOSAL_WEIGHTS_code), .unset, .unset, .unset] [(.ref w_PROPOSAL_WEIGHTS_code)]) _
    refine st110 _ ?_
    show own_S p e below T110 (mkF m 76 #[.val (.int p1), .val (.ref b85), .val (.int (2 : Int32)), .val (.ref w_PROPOSAL_WEIGHTS), .val (.int (1 : Int32)), .val (.int (1 : Int32)), .val (.ref w_TOP_OFFEROR), .val (.ref w_IDENTICAL_TOP_SCORES), .val (.ref w_PROPOSAL_WEIGHTS_code), .unset, .unset, .unset] [(.int (0 : Int32))]) _
    refine XS.ifNo X110.here hx rfl (hb hby at_76) rfl ((if0 _ _).trans (teq (rfl : (0 : Int32) = (0 : Int32))).2) ?_
    show own_S p e below T110 (mkF m 79 #[.val (.int p1), .val (.ref b85), .val (.int (2 : Int32)), .val (.ref w_PROPOSAL_WEIGHTS), .val (.int (1 : Int32)), .val (.int (1 : Int32)), .val (.ref w_TOP_OFFEROR), .val (.ref w_IDENTICAL_TOP_SCORES), .val (.ref w_PROPOSAL_WEIGHTS_code), .unset, .unset, .unset] []) _
    refine XS.aload X110.here hx rfl (hb hby at_79) rfl rfl ?_
    show own_S p e below T110 (mkF m 81 #[.val (.int p1), .val (.ref b85), .val (.int (2 : Int32)), .val (.ref w_PROPOSAL_WEIGHTS), .val (.int (1 : Int32)), .val (.int (1 : Int32)), .val (.ref w_TOP_OFFEROR), .val (.ref w_IDENTICAL_TOP_SCORES), .val (.ref w_PROPOSAL_WEIGHTS_code), .unset, .unset, .unset] [(.ref w_PROPOSAL_WEIGHTS_code)]) _
    refine XS.iconst X110.here hx rfl (hb hby at_81) ?_
    show own_S p e below T110 (mkF m 82 #[.val (.int p1), .val (.ref b85), .val (.int (2 : Int32)), .val (.ref w_PROPOSAL_WEIGHTS), .val (.int (1 : Int32)), .val (.int (1 : Int32)), .val (.ref w_TOP_OFFEROR), .val (.ref w_IDENTICAL_TOP_SCORES), .val (.ref w_PROPOSAL_WEIGHTS_code), .unset, .unset, .unset] [(.int (0 : Int32)), (.ref w_PROPOSAL_WEIGHTS_code)]) _
    refine st124 _ ?_
    show own_S p e below T124 (mkF m 85 #[.val (.int p1), .val (.ref b85), .val (.int (2 : Int32)), .val (.ref w_PROPOSAL_WEIGHTS), .val (.int (1 : Int32)), .val (.int (1 : Int32)), .val (.ref w_TOP_OFFEROR), .val (.ref w_IDENTICAL_TOP_SCORES), .val (.ref w_PROPOSAL_WEIGHTS_code), .unset, .unset, .unset] [(.int (112 : Int32))]) _
    refine XS.bipush X124.here hx rfl (hb hby at_85) ?_
    show own_S p e below T124 (mkF m 87 #[.val (.int p1), .val (.ref b85), .val (.int (2 : Int32)), .val (.ref w_PROPOSAL_WEIGHTS), .val (.int (1 : Int32)), .val (.int (1 : Int32)), .val (.ref w_TOP_OFFEROR), .val (.ref w_IDENTICAL_TOP_SCORES), .val (.ref w_PROPOSAL_WEIGHTS_code), .unset, .unset, .unset] [(.int (112 : Int32)), (.int (112 : Int32))]) _
    refine XS.icmpNo X124.here hx rfl (hb hby at_87) rfl (teq (rfl : (112 : Int32) = (112 : Int32))).2 ?_
    show own_S p e below T124 (mkF m 90 #[.val (.int p1), .val (.ref b85), .val (.int (2 : Int32)), .val (.ref w_PROPOSAL_WEIGHTS), .val (.int (1 : Int32)), .val (.int (1 : Int32)), .val (.ref w_TOP_OFFEROR), .val (.ref w_IDENTICAL_TOP_SCORES), .val (.ref w_PROPOSAL_WEIGHTS_code), .unset, .unset, .unset] []) _
    refine XS.iconst X124.here hx rfl (hb hby at_90) ?_
    show own_S p e below T124 (mkF m 91 #[.val (.int p1), .val (.ref b85), .val (.int (2 : Int32)), .val (.ref w_PROPOSAL_WEIGHTS), .val (.int (1 : Int32)), .val (.int (1 : Int32)), .val (.ref w_TOP_OFFEROR), .val (.ref w_IDENTICAL_TOP_SCORES), .val (.ref w_PROPOSAL_WEIGHTS_code), .unset, .unset, .unset] [(.int (1 : Int32))]) _
    refine XS.goto X124.here hx rfl (pc0 := 91) (pc' := 95) rfl (hb hby at_91) (by decide) (by decide) ?_
    show own_S p e below T124 (mkF m 95 #[.val (.int p1), .val (.ref b85), .val (.int (2 : Int32)), .val (.ref w_PROPOSAL_WEIGHTS), .val (.int (1 : Int32)), .val (.int (1 : Int32)), .val (.ref w_TOP_OFFEROR), .val (.ref w_IDENTICAL_TOP_SCORES), .val (.ref w_PROPOSAL_WEIGHTS_code), .unset, .unset, .unset] [(.int (1 : Int32))]) _
    refine XS.istore X124.here hx rfl (hb hby at_95) rfl (l' := #[.val (.int p1), .val (.ref b85), .val (.int (2 : Int32)), .val (.ref w_PROPOSAL_WEIGHTS), .val (.int (1 : Int32)), .val (.int (1 : Int32)), .val (.ref w_TOP_OFFEROR), .val (.ref w_IDENTICAL_TOP_SCORES), .val (.ref w_PROPOSAL_WEIGHTS_code), .val (.int (1 : Int32)), .unset, .unset]) rfl ?_
    show own_S p e below T124 (mkF m 97 #[.val (.int p1), .val (.ref b85), .val (.int (2 : Int32)), .val (.ref w_PROPOSAL_WEIGHTS), .val (.int (1 : Int32)), .val (.int (1 : Int32)), .val (.ref w_TOP_OFFEROR), .val (.ref w_IDENTICAL_TOP_SCORES), .val (.ref w_PROPOSAL_WEIGHTS_code), .val (.int (1 : Int32)), .unset, .unset] []) _
    refine XS.aload X124.here hx rfl (hb hby at_97) rfl rfl ?_
    show own_S p e below T124 (mkF m 99 #[.val (.int p1), .val (.ref b85), .val (.int (2 : Int32)), .val (.ref w_PROPOSAL_WEIGHTS), .val (.int (1 : Int32)), .val (.int (1 : Int32)), .val (.ref w_TOP_OFFEROR), .val (.ref w_IDENTICAL_TOP_SCORES), .val (.ref w_PROPOSAL_WEIGHTS_code), .val (.int (1 : Int32)), .unset, .unset] [(.ref w_TOP_OFFEROR)]) _
    refine st125 _ ?_
    show own_S p e below T125 (mkF m 102 #[.val (.int p1), .val (.ref b85), .val (.int (2 : Int32)), .val (.ref w_PROPOSAL_WEIGHTS), .val (.int (1 : Int32)), .val (.int (1 : Int32)), .val (.ref w_TOP_OFFEROR), .val (.ref w_IDENTICAL_TOP_SCORES), .val (.ref w_PROPOSAL_WEIGHTS_code), .val (.int (1 : Int32)), .unset, .unset] [(.ref w_TOP_OFFEROR), (.ref w_TOP_OFFEROR)]) _
    refine Jvm.RoadKit.acmp (g := (mkF m 102 #[.val (.int p1), .val (.ref b85), .val (.int (2 : Int32)), .val (.ref w_PROPOSAL_WEIGHTS), .val (.int (1 : Int32)), .val (.int (1 : Int32)), .val (.ref w_TOP_OFFEROR), .val (.ref w_IDENTICAL_TOP_SCORES), .val (.ref w_PROPOSAL_WEIGHTS_code), .val (.int (1 : Int32)), .unset, .unset] [(.ref w_TOP_OFFEROR), (.ref w_TOP_OFFEROR)])) X125 hx rfl rfl rfl (pc0 := 102) (pc' := 105) (same := true) rfl (hb hby at_102) rfl (decide_eq_true rfl) (by decide) (by decide) ?_
    show own_S p e below T125 (mkF m 105 #[.val (.int p1), .val (.ref b85), .val (.int (2 : Int32)), .val (.ref w_PROPOSAL_WEIGHTS), .val (.int (1 : Int32)), .val (.int (1 : Int32)), .val (.ref w_TOP_OFFEROR), .val (.ref w_IDENTICAL_TOP_SCORES), .val (.ref w_PROPOSAL_WEIGHTS_code), .val (.int (1 : Int32)), .unset, .unset] []) _
    refine XS.iconst X125.here hx rfl (hb hby at_105) ?_
    show own_S p e below T125 (mkF m 106 #[.val (.int p1), .val (.ref b85), .val (.int (2 : Int32)), .val (.ref w_PROPOSAL_WEIGHTS), .val (.int (1 : Int32)), .val (.int (1 : Int32)), .val (.ref w_TOP_OFFEROR), .val (.ref w_IDENTICAL_TOP_SCORES), .val (.ref w_PROPOSAL_WEIGHTS_code), .val (.int (1 : Int32)), .unset, .unset] [(.int (1 : Int32))]) _
    refine XS.goto X125.here hx rfl (pc0 := 106) (pc' := 110) rfl (hb hby at_106) (by decide) (by decide) ?_
    show own_S p e below T125 (mkF m 110 #[.val (.int p1), .val (.ref b85), .val (.int (2 : Int32)), .val (.ref w_PROPOSAL_WEIGHTS), .val (.int (1 : Int32)), .val (.int (1 : Int32)), .val (.ref w_TOP_OFFEROR), .val (.ref w_IDENTICAL_TOP_SCORES), .val (.ref w_PROPOSAL_WEIGHTS_code), .val (.int (1 : Int32)), .unset, .unset] [(.int (1 : Int32))]) _
    refine XS.istore X125.here hx rfl (hb hby at_110) rfl (l' := #[.val (.int p1), .val (.ref b85), .val (.int (2 : Int32)), .val (.ref w_PROPOSAL_WEIGHTS), .val (.int (1 : Int32)), .val (.int (1 : Int32)), .val (.ref w_TOP_OFFEROR), .val (.ref w_IDENTICAL_TOP_SCORES), .val (.ref w_PROPOSAL_WEIGHTS_code), .val (.int (1 : Int32)), .val (.int (1 : Int32)), .unset]) rfl ?_
    show own_S p e below T125 (mkF m 112 #[.val (.int p1), .val (.ref b85), .val (.int (2 : Int32)), .val (.ref w_PROPOSAL_WEIGHTS), .val (.int (1 : Int32)), .val (.int (1 : Int32)), .val (.ref w_TOP_OFFEROR), .val (.ref w_IDENTICAL_TOP_SCORES), .val (.ref w_PROPOSAL_WEIGHTS_code), .val (.int (1 : Int32)), .val (.int (1 : Int32)), .unset] []) _
    refine XS.aload X125.here hx rfl (hb hby at_112) rfl rfl ?_
    show own_S p e below T125 (mkF m 114 #[.val (.int p1), .val (.ref b85), .val (.int (2 : Int32)), .val (.ref w_PROPOSAL_WEIGHTS), .val (.int (1 : Int32)), .val (.int (1 : Int32)), .val (.ref w_TOP_OFFEROR), .val (.ref w_IDENTICAL_TOP_SCORES), .val (.ref w_PROPOSAL_WEIGHTS_code), .val (.int (1 : Int32)), .val (.int (1 : Int32)), .unset] [(.ref w_IDENTICAL_TOP_SCORES)]) _
    refine st126 _ ?_
    show own_S p e below T126 (mkF m 117 #[.val (.int p1), .val (.ref b85), .val (.int (2 : Int32)), .val (.ref w_PROPOSAL_WEIGHTS), .val (.int (1 : Int32)), .val (.int (1 : Int32)), .val (.ref w_TOP_OFFEROR), .val (.ref w_IDENTICAL_TOP_SCORES), .val (.ref w_PROPOSAL_WEIGHTS_code), .val (.int (1 : Int32)), .val (.int (1 : Int32)), .unset] [(.ref w_IDENTICAL_TOP_SCORES), (.ref w_IDENTICAL_TOP_SCORES)]) _
    refine Jvm.RoadKit.acmp (g := (mkF m 117 #[.val (.int p1), .val (.ref b85), .val (.int (2 : Int32)), .val (.ref w_PROPOSAL_WEIGHTS), .val (.int (1 : Int32)), .val (.int (1 : Int32)), .val (.ref w_TOP_OFFEROR), .val (.ref w_IDENTICAL_TOP_SCORES), .val (.ref w_PROPOSAL_WEIGHTS_code), .val (.int (1 : Int32)), .val (.int (1 : Int32)), .unset] [(.ref w_IDENTICAL_TOP_SCORES), (.ref w_IDENTICAL_TOP_SCORES)])) X126 hx rfl rfl rfl (pc0 := 117) (pc' := 120) (same := true) rfl (hb hby at_117) rfl (decide_eq_true rfl) (by decide) (by decide) ?_
    show own_S p e below T126 (mkF m 120 #[.val (.int p1), .val (.ref b85), .val (.int (2 : Int32)), .val (.ref w_PROPOSAL_WEIGHTS), .val (.int (1 : Int32)), .val (.int (1 : Int32)), .val (.ref w_TOP_OFFEROR), .val (.ref w_IDENTICAL_TOP_SCORES), .val (.ref w_PROPOSAL_WEIGHTS_code), .val (.int (1 : Int32)), .val (.int (1 : Int32)), .unset] []) _
    refine XS.iconst X126.here hx rfl (hb hby at_120) ?_
    show own_S p e below T126 (mkF m 121 #[.val (.int p1), .val (.ref b85), .val (.int (2 : Int32)), .val (.ref w_PROPOSAL_WEIGHTS), .val (.int (1 : Int32)), .val (.int (1 : Int32)), .val (.ref w_TOP_OFFEROR), .val (.ref w_IDENTICAL_TOP_SCORES), .val (.ref w_PROPOSAL_WEIGHTS_code), .val (.int (1 : Int32)), .val (.int (1 : Int32)), .unset] [(.int (1 : Int32))]) _
    refine XS.goto X126.here hx rfl (pc0 := 121) (pc' := 125) rfl (hb hby at_121) (by decide) (by decide) ?_
    show own_S p e below T126 (mkF m 125 #[.val (.int p1), .val (.ref b85), .val (.int (2 : Int32)), .val (.ref w_PROPOSAL_WEIGHTS), .val (.int (1 : Int32)), .val (.int (1 : Int32)), .val (.ref w_TOP_OFFEROR), .val (.ref w_IDENTICAL_TOP_SCORES), .val (.ref w_PROPOSAL_WEIGHTS_code), .val (.int (1 : Int32)), .val (.int (1 : Int32)), .unset] [(.int (1 : Int32))]) _
    refine XS.istore X126.here hx rfl (hb hby at_125) rfl (l' := #[.val (.int p1), .val (.ref b85), .val (.int (2 : Int32)), .val (.ref w_PROPOSAL_WEIGHTS), .val (.int (1 : Int32)), .val (.int (1 : Int32)), .val (.ref w_TOP_OFFEROR), .val (.ref w_IDENTICAL_TOP_SCORES), .val (.ref w_PROPOSAL_WEIGHTS_code), .val (.int (1 : Int32)), .val (.int (1 : Int32)), .val (.int (1 : Int32))]) rfl ?_
    show own_S p e below T126 (mkF m 127 #[.val (.int p1), .val (.ref b85), .val (.int (2 : Int32)), .val (.ref w_PROPOSAL_WEIGHTS), .val (.int (1 : Int32)), .val (.int (1 : Int32)), .val (.ref w_TOP_OFFEROR), .val (.ref w_IDENTICAL_TOP_SCORES), .val (.ref w_PROPOSAL_WEIGHTS_code), .val (.int (1 : Int32)), .val (.int (1 : Int32)), .val (.int (1 : Int32))] []) _
    refine XS.iload X126.here hx rfl (hb hby at_127) rfl ?_
    show own_S p e below T126 (mkF m 129 #[.val (.int p1), .val (.ref b85), .val (.int (2 : Int32)), .val (.ref w_PROPOSAL_WEIGHTS), .val (.int (1 : Int32)), .val (.int (1 : Int32)), .val (.ref w_TOP_OFFEROR), .val (.ref w_IDENTICAL_TOP_SCORES), .val (.ref w_PROPOSAL_WEIGHTS_code), .val (.int (1 : Int32)), .val (.int (1 : Int32)), .val (.int (1 : Int32))] [(.int (1 : Int32))]) _
    refine XS.iload X126.here hx rfl (hb hby at_129) rfl ?_
    show own_S p e below T126 (mkF m 131 #[.val (.int p1), .val (.ref b85), .val (.int (2 : Int32)), .val (.ref w_PROPOSAL_WEIGHTS), .val (.int (1 : Int32)), .val (.int (1 : Int32)), .val (.ref w_TOP_OFFEROR), .val (.ref w_IDENTICAL_TOP_SCORES), .val (.ref w_PROPOSAL_WEIGHTS_code), .val (.int (1 : Int32)), .val (.int (1 : Int32)), .val (.int (1 : Int32))] [(.int (1 : Int32)), (.int (1 : Int32))]) _
    refine XS.icmpNo X126.here hx rfl (hb hby at_131) rfl (teq (rfl : (1 : Int32) = (1 : Int32))).2 ?_
    show own_S p e below T126 (mkF m 134 #[.val (.int p1), .val (.ref b85), .val (.int (2 : Int32)), .val (.ref w_PROPOSAL_WEIGHTS), .val (.int (1 : Int32)), .val (.int (1 : Int32)), .val (.ref w_TOP_OFFEROR), .val (.ref w_IDENTICAL_TOP_SCORES), .val (.ref w_PROPOSAL_WEIGHTS_code), .val (.int (1 : Int32)), .val (.int (1 : Int32)), .val (.int (1 : Int32))] []) _
    refine XS.iload X126.here hx rfl (hb hby at_134) rfl ?_
    show own_S p e below T126 (mkF m 136 #[.val (.int p1), .val (.ref b85), .val (.int (2 : Int32)), .val (.ref w_PROPOSAL_WEIGHTS), .val (.int (1 : Int32)), .val (.int (1 : Int32)), .val (.ref w_TOP_OFFEROR), .val (.ref w_IDENTICAL_TOP_SCORES), .val (.ref w_PROPOSAL_WEIGHTS_code), .val (.int (1 : Int32)), .val (.int (1 : Int32)), .val (.int (1 : Int32))] [(.int (1 : Int32))]) _
    refine XS.iload X126.here hx rfl (hb hby at_136) rfl ?_
    show own_S p e below T126 (mkF m 138 #[.val (.int p1), .val (.ref b85), .val (.int (2 : Int32)), .val (.ref w_PROPOSAL_WEIGHTS), .val (.int (1 : Int32)), .val (.int (1 : Int32)), .val (.ref w_TOP_OFFEROR), .val (.ref w_IDENTICAL_TOP_SCORES), .val (.ref w_PROPOSAL_WEIGHTS_code), .val (.int (1 : Int32)), .val (.int (1 : Int32)), .val (.int (1 : Int32))] [(.int (1 : Int32)), (.int (1 : Int32))]) _
    refine XS.icmpNo X126.here hx rfl (hb hby at_138) rfl (teq (rfl : (1 : Int32) = (1 : Int32))).2 ?_
    show own_S p e below T126 (mkF m 141 #[.val (.int p1), .val (.ref b85), .val (.int (2 : Int32)), .val (.ref w_PROPOSAL_WEIGHTS), .val (.int (1 : Int32)), .val (.int (1 : Int32)), .val (.ref w_TOP_OFFEROR), .val (.ref w_IDENTICAL_TOP_SCORES), .val (.ref w_PROPOSAL_WEIGHTS_code), .val (.int (1 : Int32)), .val (.int (1 : Int32)), .val (.int (1 : Int32))] []) _
    refine XS.iload X126.here hx rfl (hb hby at_141) rfl ?_
    show own_S p e below T126 (mkF m 143 #[.val (.int p1), .val (.ref b85), .val (.int (2 : Int32)), .val (.ref w_PROPOSAL_WEIGHTS), .val (.int (1 : Int32)), .val (.int (1 : Int32)), .val (.ref w_TOP_OFFEROR), .val (.ref w_IDENTICAL_TOP_SCORES), .val (.ref w_PROPOSAL_WEIGHTS_code), .val (.int (1 : Int32)), .val (.int (1 : Int32)), .val (.int (1 : Int32))] [(.int (1 : Int32))]) _
    refine XS.iload X126.here hx rfl (hb hby at_143) rfl ?_
    show own_S p e below T126 (mkF m 145 #[.val (.int p1), .val (.ref b85), .val (.int (2 : Int32)), .val (.ref w_PROPOSAL_WEIGHTS), .val (.int (1 : Int32)), .val (.int (1 : Int32)), .val (.ref w_TOP_OFFEROR), .val (.ref w_IDENTICAL_TOP_SCORES), .val (.ref w_PROPOSAL_WEIGHTS_code), .val (.int (1 : Int32)), .val (.int (1 : Int32)), .val (.int (1 : Int32))] [(.int (1 : Int32)), (.int (1 : Int32))]) _
    refine XS.icmpNo X126.here hx rfl (hb hby at_145) rfl (teq (rfl : (1 : Int32) = (1 : Int32))).2 ?_
    show own_S p e below T126 (mkF m 148 #[.val (.int p1), .val (.ref b85), .val (.int (2 : Int32)), .val (.ref w_PROPOSAL_WEIGHTS), .val (.int (1 : Int32)), .val (.int (1 : Int32)), .val (.ref w_TOP_OFFEROR), .val (.ref w_IDENTICAL_TOP_SCORES), .val (.ref w_PROPOSAL_WEIGHTS_code), .val (.int (1 : Int32)), .val (.int (1 : Int32)), .val (.int (1 : Int32))] []) _
    refine XS.iload X126.here hx rfl (hb hby at_148) rfl ?_
    show own_S p e below T126 (mkF m 150 #[.val (.int p1), .val (.ref b85), .val (.int (2 : Int32)), .val (.ref w_PROPOSAL_WEIGHTS), .val (.int (1 : Int32)), .val (.int (1 : Int32)), .val (.ref w_TOP_OFFEROR), .val (.ref w_IDENTICAL_TOP_SCORES), .val (.ref w_PROPOSAL_WEIGHTS_code), .val (.int (1 : Int32)), .val (.int (1 : Int32)), .val (.int (1 : Int32))] [(.int (1 : Int32))]) _
    refine XS.iload X126.here hx rfl (hb hby at_150) rfl ?_
    show own_S p e below T126 (mkF m 152 #[.val (.int p1), .val (.ref b85), .val (.int (2 : Int32)), .val (.ref w_PROPOSAL_WEIGHTS), .val (.int (1 : Int32)), .val (.int (1 : Int32)), .val (.ref w_TOP_OFFEROR), .val (.ref w_IDENTICAL_TOP_SCORES), .val (.ref w_PROPOSAL_WEIGHTS_code), .val (.int (1 : Int32)), .val (.int (1 : Int32)), .val (.int (1 : Int32))] [(.int (1 : Int32)), (.int (1 : Int32))]) _
    refine XS.icmpNo X126.here hx rfl (hb hby at_152) rfl (teq (rfl : (1 : Int32) = (1 : Int32))).2 ?_
    show own_S p e below T126 (mkF m 155 #[.val (.int p1), .val (.ref b85), .val (.int (2 : Int32)), .val (.ref w_PROPOSAL_WEIGHTS), .val (.int (1 : Int32)), .val (.int (1 : Int32)), .val (.ref w_TOP_OFFEROR), .val (.ref w_IDENTICAL_TOP_SCORES), .val (.ref w_PROPOSAL_WEIGHTS_code), .val (.int (1 : Int32)), .val (.int (1 : Int32)), .val (.int (1 : Int32))] []) _
    refine XS.iconst X126.here hx rfl (hb hby at_155) ?_
    show own_S p e below T126 (mkF m 156 #[.val (.int p1), .val (.ref b85), .val (.int (2 : Int32)), .val (.ref w_PROPOSAL_WEIGHTS), .val (.int (1 : Int32)), .val (.int (1 : Int32)), .val (.ref w_TOP_OFFEROR), .val (.ref w_IDENTICAL_TOP_SCORES), .val (.ref w_PROPOSAL_WEIGHTS_code), .val (.int (1 : Int32)), .val (.int (1 : Int32)), .val (.int (1 : Int32))] [(.int (1 : Int32))]) _
    refine XS.goto X126.here hx rfl (pc0 := 156) (pc' := 160) rfl (hb hby at_156) (by decide) (by decide) ?_
    show own_S p e below T126 (mkF m 160 #[.val (.int p1), .val (.ref b85), .val (.int (2 : Int32)), .val (.ref w_PROPOSAL_WEIGHTS), .val (.int (1 : Int32)), .val (.int (1 : Int32)), .val (.ref w_TOP_OFFEROR), .val (.ref w_IDENTICAL_TOP_SCORES), .val (.ref w_PROPOSAL_WEIGHTS_code), .val (.int (1 : Int32)), .val (.int (1 : Int32)), .val (.int (1 : Int32))] [(.int (1 : Int32))]) _
    exact retN X126 hx (t := .boolean) hret (by simp) (hb hby at_160) hr
  · show Qrm0_2 Z w_BID w_PROPOSAL_POINTS w_PROPOSAL_WEIGHTS w_TOP_OFFEROR w_IDENTICAL_TOP_SCORES w_PROPOSAL_WEIGHTS_code w_PROPOSAL_WEIGHTS_code_value cl_w_PROPOSAL_WEIGHTS_code_value w_COMPACT_STRINGS w_SIOOBE_FORMATTER p1 h0 _ T126.heap _
    exact ⟨rfl, N124⟩
set_option maxRecDepth 65536 in
set_option maxHeartbeats 40000000 in
theorem comes_1 {Post : Tables → Env → Array Value → State → Outcome → State → Prop} (hpost : ∀ tb e args s v u, (limb_1_1.after args s (.returned v) u = true ∧ limb_1_2.after args s (.returned v) u = true ∧ True) → FrameEnd s (.returned v) u (Jvm.fieldLocs frame_1_writes args s ++ Jvm.arrayLocs frame_1_arrays args s ++ Jvm.staticLocs frame_1_statics s) 16 128 → Post tb e args s (.returned v) u) :
    ArmFor flags0 classFile x code maxLocals ret World_1 tables_1 room_1 Calls_1 rest_1 Pre_1 Post := by
  intro l hfl _ _ p e ha hc hk s m args below hf hA hF happ hP
  obtain ⟨hcalls, hrest, hpre⟩ := hP
  obtain ⟨-, -, -, hnamed, -, -, -, hat⟩ := (Spec.applies_iff hf).mp happ
  obtain ⟨hg, hn⟩ := and_e (Cond.before_iff.mp (show (Jvm.Cond.and given_1 narrow_1).before args s = true from hpre))
  obtain ⟨hcount, hG0⟩ := and_e hg
  have hA0 := hG0
  obtain ⟨v0, rfl⟩ : ∃ v0 : Value, args = #[v0] := by
    have hs : args.size = 1 := by simpa [Cond.value, given_1] using hcount
    obtain ⟨L⟩ := args
    match L, hs with
    | [v0], _ => exact ⟨v0, rfl⟩
  have hw := fun d (hd : d ∈ tables_1) => atoms_spec (ws := Jvm.Cond.code x code maxLocals ret :: tables_1) hat d (List.mem_cons_of_mem _ hd)
  obtain ⟨p1, ei0⟩ := is_v hA0
  obtain rfl : v0 = (.int p1) := Option.some.inj ei0
  obtain ⟨hsets, hown0⟩ := atoms_of _ (rest_1_c_eq ▸ (show rest_1_c.before _ s = true from hrest))
  obtain ⟨w_COMPACT_STRINGS, ev_w_COMPACT_STRINGS⟩ := is_v (Cond.before_iff.mp (hsets _ (List.mem_of_getElem? (i := 1) rfl)))
  have S_w_COMPACT_STRINGS : Sta s s.heap "java/lang/String" "COMPACT_STRINGS" "Z" (.int w_COMPACT_STRINGS) := Sta.start ev_w_COMPACT_STRINGS (Or.inl (hsets _ (List.mem_of_getElem? (i := 0) rfl)))
  have hc1 : ¬ (w_COMPACT_STRINGS = (0 : Int32)) := own_neI (not_v (Cond.before_iff.mp (hsets _ (List.mem_of_getElem? (i := 2) rfl)))) ev_w_COMPACT_STRINGS
  obtain ⟨w_SIOOBE_FORMATTER, ev_w_SIOOBE_FORMATTER, R_w_SIOOBE_FORMATTER⟩ := isR_v (Cond.before_iff.mp (hsets _ (List.mem_of_getElem? (i := 8) rfl)))
  have S_w_SIOOBE_FORMATTER : Sta s s.heap "jdk/internal/util/Preconditions" "SIOOBE_FORMATTER" "Ljava/util/function/BiFunction;" w_SIOOBE_FORMATTER := Sta.start ev_w_SIOOBE_FORMATTER (Or.inl (hsets _ (List.mem_of_getElem? (i := 7) rfl)))
  obtain ⟨hN0, hR0⟩ := and_e hn
  obtain ⟨hN1, hR1⟩ := and_e hR0
  obtain ⟨hN2, hR2⟩ := and_e hR1
  obtain ⟨hN3, hR3⟩ := and_e hR2
  obtain ⟨hN4, hR4⟩ := and_e hR3
  obtain ⟨hN5, hR5⟩ := and_e hR4
  obtain ⟨hN6, hR6⟩ := and_e hR5
  obtain ⟨hN7, hR7⟩ := and_e hR6
  obtain ⟨hN8, hR8⟩ := and_e hR7
  obtain ⟨hN9, hR9⟩ := and_e hR8
  obtain ⟨hN10, hR10⟩ := and_e hR9
  obtain ⟨hN11, hR11⟩ := and_e hR10
  obtain ⟨hN12, hR12⟩ := and_e hR11
  obtain ⟨hN13, hR13⟩ := and_e hR12
  obtain ⟨hN14, hR14⟩ := and_e hR13
  obtain ⟨hN15, hR15⟩ := and_e hR14
  obtain ⟨hN16, hR16⟩ := and_e hR15
  obtain ⟨hN17, hR17⟩ := and_e hR16
  obtain ⟨hN18, hR18⟩ := and_e hR17
  obtain ⟨hN19, hR19⟩ := and_e hR18
  obtain ⟨hN20, hR20⟩ := and_e hR19
  obtain ⟨hN21, hR21⟩ := and_e hR20
  obtain ⟨hN22, hR22⟩ := and_e hR21
  obtain ⟨hN23, hR23⟩ := and_e hR22
  obtain ⟨hN24, hR24⟩ := and_e hR23
  obtain ⟨hN25, hR25⟩ := and_e hR24
  obtain ⟨hN26, hR26⟩ := and_e hR25
  obtain ⟨hN27, hR27⟩ := and_e hR26
  obtain ⟨hN28, hR28⟩ := and_e hR27
  obtain ⟨hN29, hR29⟩ := and_e hR28
  obtain ⟨hN30, hR30⟩ := and_e hR29
  obtain ⟨hN31, hR31⟩ := and_e hR30
  obtain ⟨hN32, hR32⟩ := and_e hR31
  obtain ⟨hN33, hR33⟩ := and_e hR32
  obtain ⟨hN34, hR34⟩ := and_e hR33
  obtain ⟨hN35, hR35⟩ := and_e hR34
  obtain ⟨hN36, hR36⟩ := and_e hR35
  obtain ⟨hN37, hR37⟩ := and_e hR36
  obtain ⟨hN38, hR38⟩ := and_e hR37
  obtain ⟨hN39, hR39⟩ := and_e hR38
  obtain ⟨hN40, hR40⟩ := and_e hR39
  obtain ⟨hN41, hR41⟩ := and_e hR40
  obtain ⟨hN42, hR42⟩ := and_e hR41
  obtain ⟨hN43, hR43⟩ := and_e hR42
  obtain ⟨hN44, hR44⟩ := and_e hR43
  obtain ⟨hN45, hR45⟩ := and_e hR44
  obtain ⟨hN46, hR46⟩ := and_e hR45
  obtain ⟨hN47, hR47⟩ := and_e hR46
  obtain ⟨hN48, hR48⟩ := and_e hR47
  obtain ⟨hN49, hR49⟩ := and_e hR48
  obtain ⟨hN50, hR50⟩ := and_e hR49
  obtain ⟨hN51, hR51⟩ := and_e hR50
  obtain ⟨hN52, hR52⟩ := and_e hR51
  obtain ⟨hN53, hR53⟩ := and_e hR52
  obtain ⟨hN54, hR54⟩ := and_e hR53
  obtain ⟨hN55, hR55⟩ := and_e hR54
  obtain ⟨hN56, hR56⟩ := and_e hR55
  obtain ⟨hN57, hR57⟩ := and_e hR56
  obtain ⟨hN58, hR58⟩ := and_e hR57
  obtain ⟨hN59, hR59⟩ := and_e hR58
  obtain ⟨hN60, hR60⟩ := and_e hR59
  obtain ⟨hN61, hR61⟩ := and_e hR60
  obtain ⟨hN62, hR62⟩ := and_e hR61
  obtain ⟨hN63, hR63⟩ := and_e hR62
  obtain ⟨hN64, hR64⟩ := and_e hR63
  have hN65 := hR64
  obtain ⟨w_BID, ev_w_BID⟩ := exa_v hN0
  have E_w_BID : Exa s s.heap w_BID "com/example/zia_tally/ziatally/evaluation/Method" := Exa.start ev_w_BID hN0
  have S_w_BID : Sta s s.heap "com/example/zia_tally/ziatally/evaluation/Method" "BID" "Lcom/example/zia_tally/ziatally/evaluation/Method;" (.ref w_BID) := Sta.start ev_w_BID (Or.inr ⟨(own_w hw 3 rfl), (own_w hw 4 rfl)⟩)
  obtain ⟨w_PROPOSAL_POINTS, ev_w_PROPOSAL_POINTS⟩ := exa_v hN1
  have E_w_PROPOSAL_POINTS : Exa s s.heap w_PROPOSAL_POINTS "com/example/zia_tally/ziatally/evaluation/Method" := Exa.start ev_w_PROPOSAL_POINTS hN1
  have S_w_PROPOSAL_POINTS : Sta s s.heap "com/example/zia_tally/ziatally/evaluation/Method" "PROPOSAL_POINTS" "Lcom/example/zia_tally/ziatally/evaluation/Method;" (.ref w_PROPOSAL_POINTS) := Sta.start ev_w_PROPOSAL_POINTS (Or.inr ⟨(own_w hw 3 rfl), (own_w hw 7 rfl)⟩)
  obtain ⟨w_PROPOSAL_WEIGHTS, ev_w_PROPOSAL_WEIGHTS⟩ := exa_v hN2
  have E_w_PROPOSAL_WEIGHTS : Exa s s.heap w_PROPOSAL_WEIGHTS "com/example/zia_tally/ziatally/evaluation/Method" := Exa.start ev_w_PROPOSAL_WEIGHTS hN2
  have S_w_PROPOSAL_WEIGHTS : Sta s s.heap "com/example/zia_tally/ziatally/evaluation/Method" "PROPOSAL_WEIGHTS" "Lcom/example/zia_tally/ziatally/evaluation/Method;" (.ref w_PROPOSAL_WEIGHTS) := Sta.start ev_w_PROPOSAL_WEIGHTS (Or.inr ⟨(own_w hw 3 rfl), (own_w hw 9 rfl)⟩)
  obtain ⟨w_LOW_BIDDER, ev_w_LOW_BIDDER⟩ := exa_v hN3
  have E_w_LOW_BIDDER : Exa s s.heap w_LOW_BIDDER "com/example/zia_tally/ziatally/evaluation/Outcome" := Exa.start ev_w_LOW_BIDDER hN3
  have S_w_LOW_BIDDER : Sta s s.heap "com/example/zia_tally/ziatally/evaluation/Outcome" "LOW_BIDDER" "Lcom/example/zia_tally/ziatally/evaluation/Outcome;" (.ref w_LOW_BIDDER) := Sta.start ev_w_LOW_BIDDER (Or.inr ⟨(own_w hw 24 rfl), (own_w hw 25 rfl)⟩)
  obtain ⟨w_IDENTICAL_LOW_BIDS, ev_w_IDENTICAL_LOW_BIDS⟩ := exa_v hN5
  have E_w_IDENTICAL_LOW_BIDS : Exa s s.heap w_IDENTICAL_LOW_BIDS "com/example/zia_tally/ziatally/evaluation/Outcome" := Exa.start ev_w_IDENTICAL_LOW_BIDS hN5
  have S_w_IDENTICAL_LOW_BIDS : Sta s s.heap "com/example/zia_tally/ziatally/evaluation/Outcome" "IDENTICAL_LOW_BIDS" "Lcom/example/zia_tally/ziatally/evaluation/Outcome;" (.ref w_IDENTICAL_LOW_BIDS) := Sta.start ev_w_IDENTICAL_LOW_BIDS (Or.inr ⟨(own_w hw 24 rfl), (own_w hw 28 rfl)⟩)
  obtain ⟨w_TOP_OFFEROR, ev_w_TOP_OFFEROR⟩ := exa_v hN12
  have E_w_TOP_OFFEROR : Exa s s.heap w_TOP_OFFEROR "com/example/zia_tally/ziatally/evaluation/Outcome" := Exa.start ev_w_TOP_OFFEROR hN12
  have S_w_TOP_OFFEROR : Sta s s.heap "com/example/zia_tally/ziatally/evaluation/Outcome" "TOP_OFFEROR" "Lcom/example/zia_tally/ziatally/evaluation/Outcome;" (.ref w_TOP_OFFEROR) := Sta.start ev_w_TOP_OFFEROR (Or.inr ⟨(own_w hw 24 rfl), (own_w hw 70 rfl)⟩)
  obtain ⟨w_IDENTICAL_TOP_SCORES, ev_w_IDENTICAL_TOP_SCORES⟩ := exa_v hN15
  have E_w_IDENTICAL_TOP_SCORES : Exa s s.heap w_IDENTICAL_TOP_SCORES "com/example/zia_tally/ziatally/evaluation/Outcome" := Exa.start ev_w_IDENTICAL_TOP_SCORES hN15
  have S_w_IDENTICAL_TOP_SCORES : Sta s s.heap "com/example/zia_tally/ziatally/evaluation/Outcome" "IDENTICAL_TOP_SCORES" "Lcom/example/zia_tally/ziatally/evaluation/Outcome;" (.ref w_IDENTICAL_TOP_SCORES) := Sta.start ev_w_IDENTICAL_TOP_SCORES (Or.inr ⟨(own_w hw 24 rfl), (own_w hw 72 rfl)⟩)
  obtain ⟨w_BID_code, ev_w_BID_code⟩ := exa_v hN7
  have E_w_BID_code : Exa s s.heap w_BID_code "java/lang/String" := Exa.start ev_w_BID_code hN7
  have F_w_BID_code : Fld s s.heap w_BID "com/example/zia_tally/ziatally/evaluation/Method" "code" "Ljava/lang/String;" (.ref w_BID_code) := Fld.start ((fld_at ev_w_BID).symm.trans ev_w_BID_code)
  obtain ⟨w_BID_code_value, ev_w_BID_code_value⟩ := arr_v hN8
  obtain ⟨cl_w_BID_code_value, Ar_w_BID_code_value⟩ := Arr.start ev_w_BID_code_value hN8
  have F_w_BID_code_value : Fld s s.heap w_BID_code "java/lang/String" "value" "[B" (.ref w_BID_code_value) := Fld.start ((fld_at ev_w_BID_code).symm.trans ev_w_BID_code_value)
  obtain ⟨w_PROPOSAL_WEIGHTS_code, ev_w_PROPOSAL_WEIGHTS_code⟩ := exa_v hN22
  have E_w_PROPOSAL_WEIGHTS_code : Exa s s.heap w_PROPOSAL_WEIGHTS_code "java/lang/String" := Exa.start ev_w_PROPOSAL_WEIGHTS_code hN22
  have F_w_PROPOSAL_WEIGHTS_code : Fld s s.heap w_PROPOSAL_WEIGHTS "com/example/zia_tally/ziatally/evaluation/Method" "code" "Ljava/lang/String;" (.ref w_PROPOSAL_WEIGHTS_code) := Fld.start ((fld_at ev_w_PROPOSAL_WEIGHTS).symm.trans ev_w_PROPOSAL_WEIGHTS_code)
  obtain ⟨w_PROPOSAL_POINTS_code, ev_w_PROPOSAL_POINTS_code⟩ := exa_v hN29
  have E_w_PROPOSAL_POINTS_code : Exa s s.heap w_PROPOSAL_POINTS_code "java/lang/String" := Exa.start ev_w_PROPOSAL_POINTS_code hN29
  have F_w_PROPOSAL_POINTS_code : Fld s s.heap w_PROPOSAL_POINTS "com/example/zia_tally/ziatally/evaluation/Method" "code" "Ljava/lang/String;" (.ref w_PROPOSAL_POINTS_code) := Fld.start ((fld_at ev_w_PROPOSAL_POINTS).symm.trans ev_w_PROPOSAL_POINTS_code)
  obtain ⟨w_PROPOSAL_WEIGHTS_code_value, ev_w_PROPOSAL_WEIGHTS_code_value⟩ := arr_v hN23
  obtain ⟨cl_w_PROPOSAL_WEIGHTS_code_value, Ar_w_PROPOSAL_WEIGHTS_code_value⟩ := Arr.start ev_w_PROPOSAL_WEIGHTS_code_value hN23
  have F_w_PROPOSAL_WEIGHTS_code_value : Fld s s.heap w_PROPOSAL_WEIGHTS_code "java/lang/String" "value" "[B" (.ref w_PROPOSAL_WEIGHTS_code_value) := Fld.start ((fld_at ev_w_PROPOSAL_WEIGHTS_code).symm.trans ev_w_PROPOSAL_WEIGHTS_code_value)
  obtain ⟨w_PROPOSAL_POINTS_code_value, ev_w_PROPOSAL_POINTS_code_value⟩ := arr_v hN30
  obtain ⟨cl_w_PROPOSAL_POINTS_code_value, Ar_w_PROPOSAL_POINTS_code_value⟩ := Arr.start ev_w_PROPOSAL_POINTS_code_value hN30
  have F_w_PROPOSAL_POINTS_code_value : Fld s s.heap w_PROPOSAL_POINTS_code "java/lang/String" "value" "[B" (.ref w_PROPOSAL_POINTS_code_value) := Fld.start ((fld_at ev_w_PROPOSAL_POINTS_code).symm.trans ev_w_PROPOSAL_POINTS_code_value)
  have F_w_BID_single : Fld s s.heap w_BID "com/example/zia_tally/ziatally/evaluation/Method" "single" "Lcom/example/zia_tally/ziatally/evaluation/Outcome;" (.ref w_LOW_BIDDER) := Fld.start ((fld_at ev_w_BID).symm.trans (own_eqR hN4 ev_w_LOW_BIDDER))
  have F_w_BID_tied : Fld s s.heap w_BID "com/example/zia_tally/ziatally/evaluation/Method" "tied" "Lcom/example/zia_tally/ziatally/evaluation/Outcome;" (.ref w_IDENTICAL_LOW_BIDS) := Fld.start ((fld_at ev_w_BID).symm.trans (own_eqR hN6 ev_w_IDENTICAL_LOW_BIDS))
  have Sz_w_BID_code_value : cl_w_BID_code_value.slots.size = (3 : Int32).toNatClampNeg := own_len ev_w_BID_code_value Ar_w_BID_code_value (own_eqI hN9) (by decide)
  have F_w_BID_code_coder : Fld s s.heap w_BID_code "java/lang/String" "coder" "B" (.int (0 : Int32)) := Fld.start ((fld_at ev_w_BID_code).symm.trans (own_eqI hN10))
  obtain ⟨hin_w_BID_code_value_0, hat_w_BID_code_value_0⟩ := elem_in (own_eqI hN11) ev_w_BID_code_value (Term.int_eval (0 : Int32)) Ar_w_BID_code_value.1
  have F_w_LOW_BIDDER_ordinal : Fld s s.heap w_LOW_BIDDER "java/lang/Enum" "ordinal" "I" (.int (0 : Int32)) := Fld.start ((fld_at ev_w_LOW_BIDDER).symm.trans (own_eqI hN13))
  have F_w_TOP_OFFEROR_ordinal : Fld s s.heap w_TOP_OFFEROR "java/lang/Enum" "ordinal" "I" (.int (4 : Int32)) := Fld.start ((fld_at ev_w_TOP_OFFEROR).symm.trans (own_eqI hN14))
  have F_w_IDENTICAL_LOW_BIDS_ordinal : Fld s s.heap w_IDENTICAL_LOW_BIDS "java/lang/Enum" "ordinal" "I" (.int (1 : Int32)) := Fld.start ((fld_at ev_w_IDENTICAL_LOW_BIDS).symm.trans (own_eqI hN16))
  have F_w_IDENTICAL_TOP_SCORES_ordinal : Fld s s.heap w_IDENTICAL_TOP_SCORES "java/lang/Enum" "ordinal" "I" (.int (5 : Int32)) := Fld.start ((fld_at ev_w_IDENTICAL_TOP_SCORES).symm.trans (own_eqI hN17))
  have F_w_PROPOSAL_WEIGHTS_ordinal : Fld s s.heap w_PROPOSAL_WEIGHTS "java/lang/Enum" "ordinal" "I" (.int (2 : Int32)) := Fld.start ((fld_at ev_w_PROPOSAL_WEIGHTS).symm.trans (own_eqI hN18))
  have F_w_BID_ordinal : Fld s s.heap w_BID "java/lang/Enum" "ordinal" "I" (.int (0 : Int32)) := Fld.start ((fld_at ev_w_BID).symm.trans (own_eqI hN19))
  have F_w_PROPOSAL_WEIGHTS_single : Fld s s.heap w_PROPOSAL_WEIGHTS "com/example/zia_tally/ziatally/evaluation/Method" "single" "Lcom/example/zia_tally/ziatally/evaluation/Outcome;" (.ref w_TOP_OFFEROR) := Fld.start ((fld_at ev_w_PROPOSAL_WEIGHTS).symm.trans (own_eqR hN20 ev_w_TOP_OFFEROR))
  have F_w_PROPOSAL_WEIGHTS_tied : Fld s s.heap w_PROPOSAL_WEIGHTS "com/example/zia_tally/ziatally/evaluation/Method" "tied" "Lcom/example/zia_tally/ziatally/evaluation/Outcome;" (.ref w_IDENTICAL_TOP_SCORES) := Fld.start ((fld_at ev_w_PROPOSAL_WEIGHTS).symm.trans (own_eqR hN21 ev_w_IDENTICAL_TOP_SCORES))
  have Sz_w_PROPOSAL_WEIGHTS_code_value : cl_w_PROPOSAL_WEIGHTS_code_value.slots.size = (16 : Int32).toNatClampNeg := own_len ev_w_PROPOSAL_WEIGHTS_code_value Ar_w_PROPOSAL_WEIGHTS_code_value (own_eqI hN24) (by decide)
  have F_w_PROPOSAL_WEIGHTS_code_coder : Fld s s.heap w_PROPOSAL_WEIGHTS_code "java/lang/String" "coder" "B" (.int (0 : Int32)) := Fld.start ((fld_at ev_w_PROPOSAL_WEIGHTS_code).symm.trans (own_eqI hN25))
  have F_w_PROPOSAL_POINTS_ordinal : Fld s s.heap w_PROPOSAL_POINTS "java/lang/Enum" "ordinal" "I" (.int (1 : Int32)) := Fld.start ((fld_at ev_w_PROPOSAL_POINTS).symm.trans (own_eqI hN26))
  have F_w_PROPOSAL_POINTS_single : Fld s s.heap w_PROPOSAL_POINTS "com/example/zia_tally/ziatally/evaluation/Method" "single" "Lcom/example/zia_tally/ziatally/evaluation/Outcome;" (.ref w_TOP_OFFEROR) := Fld.start ((fld_at ev_w_PROPOSAL_POINTS).symm.trans (own_eqR hN27 ev_w_TOP_OFFEROR))
  have F_w_PROPOSAL_POINTS_tied : Fld s s.heap w_PROPOSAL_POINTS "com/example/zia_tally/ziatally/evaluation/Method" "tied" "Lcom/example/zia_tally/ziatally/evaluation/Outcome;" (.ref w_IDENTICAL_TOP_SCORES) := Fld.start ((fld_at ev_w_PROPOSAL_POINTS).symm.trans (own_eqR hN28 ev_w_IDENTICAL_TOP_SCORES))
  have Sz_w_PROPOSAL_POINTS_code_value : cl_w_PROPOSAL_POINTS_code_value.slots.size = (15 : Int32).toNatClampNeg := own_len ev_w_PROPOSAL_POINTS_code_value Ar_w_PROPOSAL_POINTS_code_value (own_eqI hN31) (by decide)
  have F_w_PROPOSAL_POINTS_code_coder : Fld s s.heap w_PROPOSAL_POINTS_code "java/lang/String" "coder" "B" (.int (0 : Int32)) := Fld.start ((fld_at ev_w_PROPOSAL_POINTS_code).symm.trans (own_eqI hN32))
  obtain ⟨hin_w_BID_code_value_1, hat_w_BID_code_value_1⟩ := elem_in (own_eqI hN33) ev_w_BID_code_value (Term.int_eval (1 : Int32)) Ar_w_BID_code_value.1
  obtain ⟨hin_w_BID_code_value_2, hat_w_BID_code_value_2⟩ := elem_in (own_eqI hN34) ev_w_BID_code_value (Term.int_eval (2 : Int32)) Ar_w_BID_code_value.1
  obtain ⟨hin_w_PROPOSAL_WEIGHTS_code_value_0, hat_w_PROPOSAL_WEIGHTS_code_value_0⟩ := elem_in (own_eqI hN35) ev_w_PROPOSAL_WEIGHTS_code_value (Term.int_eval (0 : Int32)) Ar_w_PROPOSAL_WEIGHTS_code_value.1
  obtain ⟨hin_w_PROPOSAL_WEIGHTS_code_value_1, hat_w_PROPOSAL_WEIGHTS_code_value_1⟩ := elem_in (own_eqI hN36) ev_w_PROPOSAL_WEIGHTS_code_value (Term.int_eval (1 : Int32)) Ar_w_PROPOSAL_WEIGHTS_code_value.1
  obtain ⟨hin_w_PROPOSAL_WEIGHTS_code_value_2, hat_w_PROPOSAL_WEIGHTS_code_value_2⟩ := elem_in (own_eqI hN37) ev_w_PROPOSAL_WEIGHTS_code_value (Term.int_eval (2 : Int32)) Ar_w_PROPOSAL_WEIGHTS_code_value.1
  obtain ⟨hin_w_PROPOSAL_WEIGHTS_code_value_3, hat_w_PROPOSAL_WEIGHTS_code_value_3⟩ := elem_in (own_eqI hN38) ev_w_PROPOSAL_WEIGHTS_code_value (Term.int_eval (3 : Int32)) Ar_w_PROPOSAL_WEIGHTS_code_value.1
  obtain ⟨hin_w_PROPOSAL_WEIGHTS_code_value_4, hat_w_PROPOSAL_WEIGHTS_code_value_4⟩ := elem_in (own_eqI hN39) ev_w_PROPOSAL_WEIGHTS_code_value (Term.int_eval (4 : Int32)) Ar_w_PROPOSAL_WEIGHTS_code_value.1
  obtain ⟨hin_w_PROPOSAL_WEIGHTS_code_value_5, hat_w_PROPOSAL_WEIGHTS_code_value_5⟩ := elem_in (own_eqI hN40) ev_w_PROPOSAL_WEIGHTS_code_value (Term.int_eval (5 : Int32)) Ar_w_PROPOSAL_WEIGHTS_code_value.1
  obtain ⟨hin_w_PROPOSAL_WEIGHTS_code_value_6, hat_w_PROPOSAL_WEIGHTS_code_value_6⟩ := elem_in (own_eqI hN41) ev_w_PROPOSAL_WEIGHTS_code_value (Term.int_eval (6 : Int32)) Ar_w_PROPOSAL_WEIGHTS_code_value.1
  obtain ⟨hin_w_PROPOSAL_WEIGHTS_code_value_7, hat_w_PROPOSAL_WEIGHTS_code_value_7⟩ := elem_in (own_eqI hN42) ev_w_PROPOSAL_WEIGHTS_code_value (Term.int_eval (7 : Int32)) Ar_w_PROPOSAL_WEIGHTS_code_value.1
  obtain ⟨hin_w_PROPOSAL_WEIGHTS_code_value_8, hat_w_PROPOSAL_WEIGHTS_code_value_8⟩ := elem_in (own_eqI hN43) ev_w_PROPOSAL_WEIGHTS_code_value (Term.int_eval (8 : Int32)) Ar_w_PROPOSAL_WEIGHTS_code_value.1
  obtain ⟨hin_w_PROPOSAL_WEIGHTS_code_value_9, hat_w_PROPOSAL_WEIGHTS_code_value_9⟩ := elem_in (own_eqI hN44) ev_w_PROPOSAL_WEIGHTS_code_value (Term.int_eval (9 : Int32)) Ar_w_PROPOSAL_WEIGHTS_code_value.1
  obtain ⟨hin_w_PROPOSAL_WEIGHTS_code_value_10, hat_w_PROPOSAL_WEIGHTS_code_value_10⟩ := elem_in (own_eqI hN45) ev_w_PROPOSAL_WEIGHTS_code_value (Term.int_eval (10 : Int32)) Ar_w_PROPOSAL_WEIGHTS_code_value.1
  obtain ⟨hin_w_PROPOSAL_WEIGHTS_code_value_11, hat_w_PROPOSAL_WEIGHTS_code_value_11⟩ := elem_in (own_eqI hN46) ev_w_PROPOSAL_WEIGHTS_code_value (Term.int_eval (11 : Int32)) Ar_w_PROPOSAL_WEIGHTS_code_value.1
  obtain ⟨hin_w_PROPOSAL_WEIGHTS_code_value_12, hat_w_PROPOSAL_WEIGHTS_code_value_12⟩ := elem_in (own_eqI hN47) ev_w_PROPOSAL_WEIGHTS_code_value (Term.int_eval (12 : Int32)) Ar_w_PROPOSAL_WEIGHTS_code_value.1
  obtain ⟨hin_w_PROPOSAL_WEIGHTS_code_value_13, hat_w_PROPOSAL_WEIGHTS_code_value_13⟩ := elem_in (own_eqI hN48) ev_w_PROPOSAL_WEIGHTS_code_value (Term.int_eval (13 : Int32)) Ar_w_PROPOSAL_WEIGHTS_code_value.1
  obtain ⟨hin_w_PROPOSAL_WEIGHTS_code_value_14, hat_w_PROPOSAL_WEIGHTS_code_value_14⟩ := elem_in (own_eqI hN49) ev_w_PROPOSAL_WEIGHTS_code_value (Term.int_eval (14 : Int32)) Ar_w_PROPOSAL_WEIGHTS_code_value.1
  obtain ⟨hin_w_PROPOSAL_WEIGHTS_code_value_15, hat_w_PROPOSAL_WEIGHTS_code_value_15⟩ := elem_in (own_eqI hN50) ev_w_PROPOSAL_WEIGHTS_code_value (Term.int_eval (15 : Int32)) Ar_w_PROPOSAL_WEIGHTS_code_value.1
  obtain ⟨hin_w_PROPOSAL_POINTS_code_value_0, hat_w_PROPOSAL_POINTS_code_value_0⟩ := elem_in (own_eqI hN51) ev_w_PROPOSAL_POINTS_code_value (Term.int_eval (0 : Int32)) Ar_w_PROPOSAL_POINTS_code_value.1
  obtain ⟨hin_w_PROPOSAL_POINTS_code_value_1, hat_w_PROPOSAL_POINTS_code_value_1⟩ := elem_in (own_eqI hN52) ev_w_PROPOSAL_POINTS_code_value (Term.int_eval (1 : Int32)) Ar_w_PROPOSAL_POINTS_code_value.1
  obtain ⟨hin_w_PROPOSAL_POINTS_code_value_2, hat_w_PROPOSAL_POINTS_code_value_2⟩ := elem_in (own_eqI hN53) ev_w_PROPOSAL_POINTS_code_value (Term.int_eval (2 : Int32)) Ar_w_PROPOSAL_POINTS_code_value.1
  obtain ⟨hin_w_PROPOSAL_POINTS_code_value_3, hat_w_PROPOSAL_POINTS_code_value_3⟩ := elem_in (own_eqI hN54) ev_w_PROPOSAL_POINTS_code_value (Term.int_eval (3 : Int32)) Ar_w_PROPOSAL_POINTS_code_value.1
  obtain ⟨hin_w_PROPOSAL_POINTS_code_value_4, hat_w_PROPOSAL_POINTS_code_value_4⟩ := elem_in (own_eqI hN55) ev_w_PROPOSAL_POINTS_code_value (Term.int_eval (4 : Int32)) Ar_w_PROPOSAL_POINTS_code_value.1
  obtain ⟨hin_w_PROPOSAL_POINTS_code_value_5, hat_w_PROPOSAL_POINTS_code_value_5⟩ := elem_in (own_eqI hN56) ev_w_PROPOSAL_POINTS_code_value (Term.int_eval (5 : Int32)) Ar_w_PROPOSAL_POINTS_code_value.1
  obtain ⟨hin_w_PROPOSAL_POINTS_code_value_6, hat_w_PROPOSAL_POINTS_code_value_6⟩ := elem_in (own_eqI hN57) ev_w_PROPOSAL_POINTS_code_value (Term.int_eval (6 : Int32)) Ar_w_PROPOSAL_POINTS_code_value.1
  obtain ⟨hin_w_PROPOSAL_POINTS_code_value_7, hat_w_PROPOSAL_POINTS_code_value_7⟩ := elem_in (own_eqI hN58) ev_w_PROPOSAL_POINTS_code_value (Term.int_eval (7 : Int32)) Ar_w_PROPOSAL_POINTS_code_value.1
  obtain ⟨hin_w_PROPOSAL_POINTS_code_value_8, hat_w_PROPOSAL_POINTS_code_value_8⟩ := elem_in (own_eqI hN59) ev_w_PROPOSAL_POINTS_code_value (Term.int_eval (8 : Int32)) Ar_w_PROPOSAL_POINTS_code_value.1
  obtain ⟨hin_w_PROPOSAL_POINTS_code_value_9, hat_w_PROPOSAL_POINTS_code_value_9⟩ := elem_in (own_eqI hN60) ev_w_PROPOSAL_POINTS_code_value (Term.int_eval (9 : Int32)) Ar_w_PROPOSAL_POINTS_code_value.1
  obtain ⟨hin_w_PROPOSAL_POINTS_code_value_10, hat_w_PROPOSAL_POINTS_code_value_10⟩ := elem_in (own_eqI hN61) ev_w_PROPOSAL_POINTS_code_value (Term.int_eval (10 : Int32)) Ar_w_PROPOSAL_POINTS_code_value.1
  obtain ⟨hin_w_PROPOSAL_POINTS_code_value_11, hat_w_PROPOSAL_POINTS_code_value_11⟩ := elem_in (own_eqI hN62) ev_w_PROPOSAL_POINTS_code_value (Term.int_eval (11 : Int32)) Ar_w_PROPOSAL_POINTS_code_value.1
  obtain ⟨hin_w_PROPOSAL_POINTS_code_value_12, hat_w_PROPOSAL_POINTS_code_value_12⟩ := elem_in (own_eqI hN63) ev_w_PROPOSAL_POINTS_code_value (Term.int_eval (12 : Int32)) Ar_w_PROPOSAL_POINTS_code_value.1
  obtain ⟨hin_w_PROPOSAL_POINTS_code_value_13, hat_w_PROPOSAL_POINTS_code_value_13⟩ := elem_in (own_eqI hN64) ev_w_PROPOSAL_POINTS_code_value (Term.int_eval (13 : Int32)) Ar_w_PROPOSAL_POINTS_code_value.1
  obtain ⟨hin_w_PROPOSAL_POINTS_code_value_14, hat_w_PROPOSAL_POINTS_code_value_14⟩ := elem_in (own_eqI hN65) ev_w_PROPOSAL_POINTS_code_value (Term.int_eval (14 : Int32)) Ar_w_PROPOSAL_POINTS_code_value.1
  have hX0 : Ext s.heap s.heap := ⟨Nat.le_refl _, fun _ _ q => q⟩
  have key : MetFree l x (head1 (Jvm.Cond.code x code maxLocals ret :: tables_1) room_1) (fun a U => a = #[(.int p1)] ∧ s.Warmed39 U.vm ∧ U.heap = s.heap) (fun _ _ _ _ _ => True) (fun _ U o U' => ∃ v L, o = .returned v ∧ (v = some (.int 1) ∧ Fr s.heap.size L) ∧ FrameEnd U o U' L room_1.cells room_1.slots) := by
    rcases own_split p1 with hq | hq | hq
    · exact rm0_0 l s _ hw tables_1 w_BID w_PROPOSAL_POINTS w_PROPOSAL_WEIGHTS w_LOW_BIDDER w_IDENTICAL_LOW_BIDS w_BID_code w_BID_code_value cl_w_BID_code_value w_TOP_OFFEROR w_IDENTICAL_TOP_SCORES w_COMPACT_STRINGS w_SIOOBE_FORMATTER p1 s.heap hX0 S_w_BID E_w_BID S_w_PROPOSAL_POINTS E_w_PROPOSAL_POINTS S_w_PROPOSAL_WEIGHTS E_w_PROPOSAL_WEIGHTS F_w_BID_single F_w_BID_tied F_w_BID_code E_w_BID_code F_w_BID_code_value Ar_w_BID_code_value Sz_w_BID_code_value S_w_COMPACT_STRINGS F_w_BID_code_coder S_w_SIOOBE_FORMATTER R_w_SIOOBE_FORMATTER hin_w_BID_code_value_0 hat_w_BID_code_value_0 S_w_TOP_OFFEROR S_w_IDENTICAL_TOP_SCORES hq hc1 (F_w_LOW_BIDDER_ordinal.ne F_w_TOP_OFFEROR_ordinal (by decide)) (F_w_IDENTICAL_LOW_BIDS_ordinal.ne F_w_IDENTICAL_TOP_SCORES_ordinal (by decide))
    · exact rm0_1 l s _ hw tables_1 w_BID w_PROPOSAL_POINTS w_PROPOSAL_WEIGHTS w_TOP_OFFEROR w_IDENTICAL_TOP_SCORES w_PROPOSAL_POINTS_code w_PROPOSAL_POINTS_code_value cl_w_PROPOSAL_POINTS_code_value w_COMPACT_STRINGS w_SIOOBE_FORMATTER p1 s.heap hX0 S_w_BID E_w_BID S_w_PROPOSAL_POINTS E_w_PROPOSAL_POINTS S_w_PROPOSAL_WEIGHTS E_w_PROPOSAL_WEIGHTS F_w_PROPOSAL_POINTS_single F_w_PROPOSAL_POINTS_tied F_w_PROPOSAL_POINTS_code E_w_PROPOSAL_POINTS_code F_w_PROPOSAL_POINTS_code_value Ar_w_PROPOSAL_POINTS_code_value Sz_w_PROPOSAL_POINTS_code_value S_w_COMPACT_STRINGS F_w_PROPOSAL_POINTS_code_coder S_w_SIOOBE_FORMATTER R_w_SIOOBE_FORMATTER hin_w_PROPOSAL_POINTS_code_value_0 hat_w_PROPOSAL_POINTS_code_value_0 S_w_TOP_OFFEROR S_w_IDENTICAL_TOP_SCORES hq (F_w_PROPOSAL_POINTS_ordinal.ne F_w_BID_ordinal (by decide)) hc1
    · exact rm0_2 l s _ hw tables_1 w_BID w_PROPOSAL_POINTS w_PROPOSAL_WEIGHTS w_TOP_OFFEROR w_IDENTICAL_TOP_SCORES w_PROPOSAL_WEIGHTS_code w_PROPOSAL_WEIGHTS_code_value cl_w_PROPOSAL_WEIGHTS_code_value w_COMPACT_STRINGS w_SIOOBE_FORMATTER p1 s.heap hX0 S_w_BID E_w_BID S_w_PROPOSAL_POINTS E_w_PROPOSAL_POINTS S_w_PROPOSAL_WEIGHTS E_w_PROPOSAL_WEIGHTS F_w_PROPOSAL_WEIGHTS_single F_w_PROPOSAL_WEIGHTS_tied F_w_PROPOSAL_WEIGHTS_code E_w_PROPOSAL_WEIGHTS_code F_w_PROPOSAL_WEIGHTS_code_value Ar_w_PROPOSAL_WEIGHTS_code_value Sz_w_PROPOSAL_WEIGHTS_code_value S_w_COMPACT_STRINGS F_w_PROPOSAL_WEIGHTS_code_coder S_w_SIOOBE_FORMATTER R_w_SIOOBE_FORMATTER hin_w_PROPOSAL_WEIGHTS_code_value_0 hat_w_PROPOSAL_WEIGHTS_code_value_0 S_w_TOP_OFFEROR S_w_IDENTICAL_TOP_SCORES hq (F_w_PROPOSAL_WEIGHTS_ordinal.ne F_w_BID_ordinal (by decide)) hc1
  obtain ⟨n, o, h1, h2, h3, _, L, rfl, ⟨rfl, N⟩, hq⟩ := key p e ha hc hk s m _ below hf ((Spec.applies_iff_loose hf).mp happ).1 ⟨rfl, State.Warmed39.refl s, rfl⟩ trivial
  refine ⟨n, _, h1, h2, h3, hpost _ _ _ _ _ _ ⟨Cond.after_iff.mpr rfl, Cond.after_iff.mpr (eq_i res_at (Term.int_eval (1)) rfl), trivial⟩ ⟨hq.1, hq.2.1, (hq.2.2.sift fun y hy => Or.inr (N y hy)).mono (by decide) (by decide)⟩⟩
theorem main_1_1 : Claimed_1_1 := comes_1 fun _ _ _ _ _ _ h hF => ⟨h.1, hF⟩
theorem main_1_2 : Claimed_1_2 := comes_1 fun _ _ _ _ _ _ h hF => ⟨h.2.1, hF⟩
end Jvm.Pilot.@@N@@
namespace Jvm.Pilot.@@N@@
open Jvm Jvm.ClassFile Sem Op Lib Jvm.Free Jvm.Stand Jvm.Pilot.@@N@@.Jvm.D
/-! MADE BY PROGRAM (witnessworld.py) out of the Statement's table words and the real class files: 20 classes; the members and pool entries that the words name. The judged class is class 1, her method 1. -/
namespace start1
open Jvm.ClassFile
def u (s : String) : CpInfo := .utf8 (stringToUtf16 s)
/-- a pool by its gaps: so many unusable entries, then the entry; so many at the end -/
def gap : Nat → List CpInfo → List CpInfo
  | 0, r => r
  | n + 1, r => .unusable :: gap n r
def poolList (es : List (Nat × CpInfo)) (last : Nat) : List CpInfo := es.foldr (fun e r => gap e.1 (e.2 :: r)) (gap last [])
def pool (es : List (Nat × CpInfo)) (last : Nat) : Array CpInfo := ⟨poolList es last⟩
def fileOf (pool : Array CpInfo) (this : Nat) (attrs : Array Attribute := #[]) (ms : Array MethodInfo := #[]) (fl : Nat := 33) (sup : Nat := 0) (ifs : Array Nat := #[]) (fds : Array FieldInfo := #[]) : ClassFile where
  minorVersion := 0
  majorVersion := 65
  constantPool := pool
  accessFlags := fl
  thisClass := this
  superClass := sup
  interfaces := ifs
  fields := fds
  methods := ms
  attributes := attrs
def plain (name : String) (sup : Option ClassId) : Class where
  name := name
  kind := .ordinary
  loader := none
  accessFlags := 33
  super := sup
  interfaces := #[]
  cf := none
  fields := #[]
  methods := #[]
  instanceTypes := #[]
  staticTypes := #[]
  resolved := #[]
  callSites := []
  init := .initialized
  statics := none
  mirror := none

def pool0 : Array CpInfo := pool [(5, u "<init>"), (0, u "()V"), (1, .class_ 10), (1, u "java/lang/Object")] 113

def k0m0 : Method := { name := "<init>", desc := "()V", sig := { parameters := [], returnType := none }, accessFlags := 1, code := none }
/-- java/lang/Object -/
def k0 : Class := { plain "java/lang/Object" none with
  accessFlags := 33
  interfaces := #[]
  cf := some (fileOf pool0 8 #[] #[{ accessFlags := 1, nameIndex := 5, descriptorIndex := 6, attributes := #[] }] 33 0 #[] #[])
  fields := #[]
  methods := #[k0m0]
  instanceTypes := #[]
  staticTypes := #[]
  resolved := Array.replicate 124 none
  statics := none }

def pool1 : Array CpInfo := pool [(2, .class_ 4), (1, u "java/lang/Object"), (0, u "<init>"), (0, u "()V"), (0, .class_ 8), (0, u "com/example/zia_tally/ziatally/evaluation/Method"), (0, .fieldref 7 10), (0, .nameAndType 11 12), (0, u "BID"), (0, u "Lcom/example/zia_tally/ziatally/evaluation/Method;"), (0, .fieldref 7 14), (0, .nameAndType 15 12), (0, u "PROPOSAL_POINTS"), (0, .fieldref 7 17), (0, .nameAndType 18 12), (0, u "PROPOSAL_WEIGHTS"), (0, .integer 2147483647), (0, .methodref 7 21), (0, .nameAndType 22 23), (0, u "isProposal"), (0, u "()Z"), (0, .methodref 7 25), (0, .nameAndType 26 27), (0, u "outcome"), (0, u "(Z)Lcom/example/zia_tally/ziatally/evaluation/Outcome;"), (0, .methodref 7 29), (0, .nameAndType 30 31), (0, u "code"), (0, u "()Ljava/lang/String;"), (0, .methodref 33 34), (0, .class_ 35), (0, .nameAndType 36 23), (0, u "java/lang/String"), (0, u "isEmpty"), (0, .methodref 33 38), (0, .nameAndType 39 40), (0, u "charAt"), (0, u "(I)C"), (0, .fieldref 42 43), (0, .class_ 44), (0, .nameAndType 45 46), (0, u "com/example/zia_tally/ziatally/evaluation/Outcome"), (0, u "TOP_OFFEROR"), (0, u "Lcom/example/zia_tally/ziatally/evaluation/Outcome;"), (0, .fieldref 42 48), (0, .nameAndType 49 46), (0, u "IDENTICAL_TOP_SCORES"), (0, .class_ 51), (0, u "com/example/zia_tally/ziatally/evaluation/MethodIsProposalPinLaw"), (2, u "law"), (0, u "(I)Z")] 5

def k1m0 : Method := { name := "<init>", desc := "()V", sig := { parameters := [], returnType := none }, accessFlags := 1, code := none }
def k1c1 : Code := { maxStack := 4, maxLocals := 12, code := code, exceptionTable := #[], attributes := #[] }
def k1m1 : Method := { name := "law", desc := "(I)Z", sig := { parameters := [.int], returnType := some .boolean }, accessFlags := 9, code := some k1c1 }
/-- com/example/zia_tally/ziatally/evaluation/MethodIsProposalPinLaw -/
def k1 : Class := { plain "com/example/zia_tally/ziatally/evaluation/MethodIsProposalPinLaw" (some 0) with
  accessFlags := 49
  interfaces := #[]
  cf := some (fileOf pool1 50 #[] #[{ accessFlags := 1, nameIndex := 5, descriptorIndex := 6, attributes := #[] }, { accessFlags := 9, nameIndex := 54, descriptorIndex := 55, attributes := #[] }] 49 2 #[] #[])
  fields := #[]
  methods := #[k1m0, k1m1]
  instanceTypes := #[]
  staticTypes := #[]
  resolved := Array.replicate 61 none
  statics := none }

def pool2 : Array CpInfo := pool [(1, .class_ 2), (0, u "java/lang/constant/Constable"), (0, .class_ 4), (0, u "java/lang/Object")] 6

/-- java/lang/constant/Constable -/
def k2 : Class := { plain "java/lang/constant/Constable" (some 0) with
  accessFlags := 1537
  interfaces := #[]
  cf := some (fileOf pool2 1 #[] #[] 1537 3 #[] #[])
  fields := #[]
  methods := #[]
  instanceTypes := #[]
  staticTypes := #[]
  resolved := Array.replicate 11 none
  statics := none }

def pool3 : Array CpInfo := pool [(1, .class_ 2), (0, u "java/lang/Comparable"), (0, .class_ 4), (0, u "java/lang/Object")] 7

/-- java/lang/Comparable -/
def k3 : Class := { plain "java/lang/Comparable" (some 0) with
  accessFlags := 1537
  interfaces := #[]
  cf := some (fileOf pool3 1 #[] #[] 1537 3 #[] #[])
  fields := #[]
  methods := #[]
  instanceTypes := #[]
  staticTypes := #[]
  resolved := Array.replicate 12 none
  statics := none }

def pool4 : Array CpInfo := pool [(1, .class_ 2), (0, u "java/io/Serializable"), (0, .class_ 4), (0, u "java/lang/Object")] 2

/-- java/io/Serializable -/
def k4 : Class := { plain "java/io/Serializable" (some 0) with
  accessFlags := 1537
  interfaces := #[]
  cf := some (fileOf pool4 1 #[] #[] 1537 3 #[] #[])
  fields := #[]
  methods := #[]
  instanceTypes := #[]
  staticTypes := #[]
  resolved := Array.replicate 7 none
  statics := none }

def pool5 : Array CpInfo := pool [(2, .class_ 4), (1, u "java/lang/Enum"), (0, u "name"), (0, u "Ljava/lang/String;"), (2, u "ordinal"), (0, u "I"), (1, .class_ 14), (1, u "java/lang/Object"), (4, u "hash"), (86, .class_ 108), (1, u "java/lang/Enum$EnumDesc"), (2, .class_ 112), (0, u "java/lang/constant/Constable"), (0, .class_ 114), (0, u "java/lang/Comparable"), (0, .class_ 116), (0, u "java/io/Serializable")] 87

/-- java/lang/Enum -/
def k5 : Class := { plain "java/lang/Enum" (some 0) with
  accessFlags := 1057
  interfaces := #[2, 3, 4]
  cf := some (fileOf pool5 2 #[.nestMembers #[106]] #[] 1057 12 #[111, 113, 115] #[{ accessFlags := 18, nameIndex := 5, descriptorIndex := 6, attributes := #[] }, { accessFlags := 18, nameIndex := 9, descriptorIndex := 10, attributes := #[] }, { accessFlags := 2, nameIndex := 19, descriptorIndex := 10, attributes := #[] }])
  fields := #[{ name := "name", type := (.object "java/lang/String"), accessFlags := 18, slot := 0, constantValue := 0 }, { name := "ordinal", type := .int, accessFlags := 18, slot := 1, constantValue := 0 }, { name := "hash", type := .int, accessFlags := 2, slot := 2, constantValue := 0 }]
  methods := #[]
  instanceTypes := #[(.object "java/lang/String"), .int, .int]
  staticTypes := #[]
  resolved := Array.replicate 204 none
  statics := none }

def pool6 : Array CpInfo := pool [(1, .class_ 2), (0, u "com/example/zia_tally/ziatally/evaluation/Method"), (0, .fieldref 1 4), (0, .nameAndType 5 6), (0, u "BID"), (0, u "Lcom/example/zia_tally/ziatally/evaluation/Method;"), (2, u "PROPOSAL_POINTS"), (2, u "PROPOSAL_WEIGHTS"), (2, u "$VALUES"), (0, u "[Lcom/example/zia_tally/ziatally/evaluation/Method;"), (6, .class_ 25), (1, u "java/lang/Enum"), (6, .fieldref 1 33), (0, .nameAndType 34 35), (0, u "code"), (0, u "Ljava/lang/String;"), (2, u "ranking"), (0, u "Ljava/util/Comparator;"), (0, .fieldref 1 41), (0, .nameAndType 42 43), (0, u "single"), (0, u "Lcom/example/zia_tally/ziatally/evaluation/Outcome;"), (0, .fieldref 1 45), (0, .nameAndType 46 43), (0, u "tied"), (47, u "()Ljava/lang/String;"), (0, u "isProposal"), (0, u "()Z"), (2, u "outcome"), (0, u "(Z)Lcom/example/zia_tally/ziatally/evaluation/Outcome;")] 5

def k6c0 : Code := { maxStack := 1, maxLocals := 1, code := prog_7_method_4_code, exceptionTable := #[], attributes := #[] }
def k6m0 : Method := { name := "code", desc := "()Ljava/lang/String;", sig := { parameters := [], returnType := some (.object "java/lang/String") }, accessFlags := 1, code := some k6c0 }
def k6c1 : Code := { maxStack := 2, maxLocals := 1, code := prog_7_method_5_code, exceptionTable := #[], attributes := #[] }
def k6m1 : Method := { name := "isProposal", desc := "()Z", sig := { parameters := [], returnType := some .boolean }, accessFlags := 1, code := some k6c1 }
def k6c2 : Code := { maxStack := 1, maxLocals := 2, code := prog_7_method_7_code, exceptionTable := #[], attributes := #[] }
def k6m2 : Method := { name := "outcome", desc := "(Z)Lcom/example/zia_tally/ziatally/evaluation/Outcome;", sig := { parameters := [.boolean], returnType := some (.object "com/example/zia_tally/ziatally/evaluation/Outcome") }, accessFlags := 0, code := some k6c2 }
/-- com/example/zia_tally/ziatally/evaluation/Method -/
def k6 : Class := { plain "com/example/zia_tally/ziatally/evaluation/Method" (some 5) with
  accessFlags := 16433
  interfaces := #[]
  cf := some (fileOf pool6 1 #[] #[{ accessFlags := 1, nameIndex := 34, descriptorIndex := 94, attributes := #[] }, { accessFlags := 1, nameIndex := 95, descriptorIndex := 96, attributes := #[] }, { accessFlags := 0, nameIndex := 99, descriptorIndex := 100, attributes := #[] }] 16433 23 #[] #[{ accessFlags := 16409, nameIndex := 5, descriptorIndex := 6, attributes := #[] }, { accessFlags := 16409, nameIndex := 9, descriptorIndex := 6, attributes := #[] }, { accessFlags := 16409, nameIndex := 12, descriptorIndex := 6, attributes := #[] }, { accessFlags := 18, nameIndex := 34, descriptorIndex := 35, attributes := #[] }, { accessFlags := 18, nameIndex := 38, descriptorIndex := 39, attributes := #[] }, { accessFlags := 18, nameIndex := 42, descriptorIndex := 43, attributes := #[] }, { accessFlags := 18, nameIndex := 46, descriptorIndex := 43, attributes := #[] }, { accessFlags := 4122, nameIndex := 15, descriptorIndex := 16, attributes := #[] }])
  fields := #[{ name := "BID", type := (.object "com/example/zia_tally/ziatally/evaluation/Method"), accessFlags := 16409, slot := 0, constantValue := 0 }, { name := "PROPOSAL_POINTS", type := (.object "com/example/zia_tally/ziatally/evaluation/Method"), accessFlags := 16409, slot := 1, constantValue := 0 }, { name := "PROPOSAL_WEIGHTS", type := (.object "com/example/zia_tally/ziatally/evaluation/Method"), accessFlags := 16409, slot := 2, constantValue := 0 }, { name := "code", type := (.object "java/lang/String"), accessFlags := 18, slot := 3, constantValue := 0 }, { name := "ranking", type := (.object "java/util/Comparator"), accessFlags := 18, slot := 4, constantValue := 0 }, { name := "single", type := (.object "com/example/zia_tally/ziatally/evaluation/Outcome"), accessFlags := 18, slot := 5, constantValue := 0 }, { name := "tied", type := (.object "com/example/zia_tally/ziatally/evaluation/Outcome"), accessFlags := 18, slot := 6, constantValue := 0 }, { name := "$VALUES", type := (.array (.object "com/example/zia_tally/ziatally/evaluation/Method")), accessFlags := 4122, slot := 3, constantValue := 0 }]
  methods := #[k6m0, k6m1, k6m2]
  instanceTypes := #[(.object "java/lang/String"), .int, .int, (.object "java/lang/String"), (.object "java/util/Comparator"), (.object "com/example/zia_tally/ziatally/evaluation/Outcome"), (.object "com/example/zia_tally/ziatally/evaluation/Outcome")]
  staticTypes := #[(.object "com/example/zia_tally/ziatally/evaluation/Method"), (.object "com/example/zia_tally/ziatally/evaluation/Method"), (.object "com/example/zia_tally/ziatally/evaluation/Method"), (.array (.object "com/example/zia_tally/ziatally/evaluation/Method"))]
  resolved := Array.replicate 106 none
  statics := some 0 }

def pool7 : Array CpInfo := pool [(1, .class_ 2), (0, u "com/example/zia_tally/ziatally/evaluation/Outcome"), (2, u "LOW_BIDDER"), (0, u "Lcom/example/zia_tally/ziatally/evaluation/Outcome;"), (2, u "IDENTICAL_LOW_BIDS"), (2, u "MULTIPLE_AWARD"), (2, u "REJECTED_ALL"), (2, u "TOP_OFFEROR"), (2, u "IDENTICAL_TOP_SCORES"), (2, u "NO_ELIGIBLE_OFFER"), (2, u "$VALUES"), (0, u "[Lcom/example/zia_tally/ziatally/evaluation/Outcome;"), (6, .class_ 37), (1, u "java/lang/Enum"), (8, u "code"), (0, u "Ljava/lang/String;")] 41

/-- com/example/zia_tally/ziatally/evaluation/Outcome -/
def k7 : Class := { plain "com/example/zia_tally/ziatally/evaluation/Outcome" (some 5) with
  accessFlags := 16433
  interfaces := #[]
  cf := some (fileOf pool7 1 #[] #[] 16433 35 #[] #[{ accessFlags := 16409, nameIndex := 5, descriptorIndex := 6, attributes := #[] }, { accessFlags := 16409, nameIndex := 9, descriptorIndex := 6, attributes := #[] }, { accessFlags := 16409, nameIndex := 12, descriptorIndex := 6, attributes := #[] }, { accessFlags := 16409, nameIndex := 15, descriptorIndex := 6, attributes := #[] }, { accessFlags := 16409, nameIndex := 18, descriptorIndex := 6, attributes := #[] }, { accessFlags := 16409, nameIndex := 21, descriptorIndex := 6, attributes := #[] }, { accessFlags := 16409, nameIndex := 24, descriptorIndex := 6, attributes := #[] }, { accessFlags := 18, nameIndex := 46, descriptorIndex := 47, attributes := #[] }, { accessFlags := 4122, nameIndex := 27, descriptorIndex := 28, attributes := #[] }])
  fields := #[{ name := "LOW_BIDDER", type := (.object "com/example/zia_tally/ziatally/evaluation/Outcome"), accessFlags := 16409, slot := 0, constantValue := 0 }, { name := "IDENTICAL_LOW_BIDS", type := (.object "com/example/zia_tally/ziatally/evaluation/Outcome"), accessFlags := 16409, slot := 1, constantValue := 0 }, { name := "MULTIPLE_AWARD", type := (.object "com/example/zia_tally/ziatally/evaluation/Outcome"), accessFlags := 16409, slot := 2, constantValue := 0 }, { name := "REJECTED_ALL", type := (.object "com/example/zia_tally/ziatally/evaluation/Outcome"), accessFlags := 16409, slot := 3, constantValue := 0 }, { name := "TOP_OFFEROR", type := (.object "com/example/zia_tally/ziatally/evaluation/Outcome"), accessFlags := 16409, slot := 4, constantValue := 0 }, { name := "IDENTICAL_TOP_SCORES", type := (.object "com/example/zia_tally/ziatally/evaluation/Outcome"), accessFlags := 16409, slot := 5, constantValue := 0 }, { name := "NO_ELIGIBLE_OFFER", type := (.object "com/example/zia_tally/ziatally/evaluation/Outcome"), accessFlags := 16409, slot := 6, constantValue := 0 }, { name := "code", type := (.object "java/lang/String"), accessFlags := 18, slot := 3, constantValue := 0 }, { name := "$VALUES", type := (.array (.object "com/example/zia_tally/ziatally/evaluation/Outcome")), accessFlags := 4122, slot := 7, constantValue := 0 }]
  methods := #[]
  instanceTypes := #[(.object "java/lang/String"), .int, .int, (.object "java/lang/String")]
  staticTypes := #[(.object "com/example/zia_tally/ziatally/evaluation/Outcome"), (.object "com/example/zia_tally/ziatally/evaluation/Outcome"), (.object "com/example/zia_tally/ziatally/evaluation/Outcome"), (.object "com/example/zia_tally/ziatally/evaluation/Outcome"), (.object "com/example/zia_tally/ziatally/evaluation/Outcome"), (.object "com/example/zia_tally/ziatally/evaluation/Outcome"), (.object "com/example/zia_tally/ziatally/evaluation/Outcome"), (.array (.object "com/example/zia_tally/ziatally/evaluation/Outcome"))]
  resolved := Array.replicate 89 none
  statics := some 1 }

def pool8 : Array CpInfo := pool [(2, .class_ 4), (1, u "java/lang/CharSequence"), (42, .class_ 48), (0, u "java/lang/CharSequence$1CodePointIterator"), (10, .class_ 60), (0, u "java/lang/CharSequence$1CharIterator"), (5, .class_ 67), (0, u "java/lang/Object")] 63

/-- java/lang/CharSequence -/
def k8 : Class := { plain "java/lang/CharSequence" (some 0) with
  accessFlags := 1537
  interfaces := #[]
  cf := some (fileOf pool8 2 #[.nestMembers #[47, 59]] #[] 1537 66 #[] #[])
  fields := #[]
  methods := #[]
  instanceTypes := #[]
  staticTypes := #[]
  resolved := Array.replicate 131 none
  statics := none }

def pool9 : Array CpInfo := pool [(1, .class_ 2), (0, u "java/lang/constant/ConstantDesc"), (0, .class_ 4), (0, u "java/lang/Object")] 32

/-- java/lang/constant/ConstantDesc -/
def k9 : Class := { plain "java/lang/constant/ConstantDesc" (some 0) with
  accessFlags := 1537
  interfaces := #[]
  cf := some (fileOf pool9 1 #[] #[] 1537 3 #[] #[])
  fields := #[]
  methods := #[]
  instanceTypes := #[]
  staticTypes := #[]
  resolved := Array.replicate 37 none
  statics := none }

def pool10 : Array CpInfo := pool [(2, .class_ 4), (1, u "java/lang/Object"), (0, u "<init>"), (0, u "()V"), (2, .fieldref 10 11), (0, .class_ 12), (0, .nameAndType 13 14), (0, u "java/lang/String"), (0, u "value"), (0, u "[B"), (0, .fieldref 10 16), (0, .nameAndType 17 18), (0, u "coder"), (0, u "B"), (2, u "hash"), (0, u "I"), (2, u "hashIsZero"), (0, u "Z"), (11, .fieldref 10 39), (0, .nameAndType 40 26), (0, u "COMPACT_STRINGS"), (66, .class_ 109), (1, u "java/lang/StringLatin1"), (32, u "()Z"), (220, u "([BI)C"), (27, u "(II)V"), (35, u "(I)C"), (64, .methodref 10 493), (0, .nameAndType 494 142), (0, u "isLatin1"), (0, .methodref 107 496), (0, .nameAndType 497 363), (0, u "charAt"), (3, u "checkIndex"), (73, .class_ 576), (0, u "java/lang/CharSequence"), (22, u "CASE_INSENSITIVE_ORDER"), (0, u "Ljava/util/Comparator;"), (91, u "isEmpty"), (360, .fieldref 1054 1055), (0, .class_ 1056), (0, .nameAndType 1057 1058), (0, u "jdk/internal/util/Preconditions"), (0, u "SIOOBE_FORMATTER"), (0, u "Ljava/util/function/BiFunction;"), (0, .methodref 1054 1060), (0, .nameAndType 501 1061), (0, u "(IILjava/util/function/BiFunction;)I"), (39, u "serialPersistentFields"), (0, u "[Ljava/io/ObjectStreamField;"), (0, .class_ 1104), (0, u "java/lang/String$CaseInsensitiveComparator"), (1, .class_ 1107), (0, u "java/io/Serializable"), (0, .class_ 1109), (0, u "java/lang/Comparable"), (0, .class_ 1111), (0, u "java/lang/constant/Constable"), (0, .class_ 1113), (0, u "java/lang/constant/ConstantDesc"), (2, u "serialVersionUID"), (0, u "J"), (3, u "REPL"), (0, u "C"), (2, u "LATIN1"), (1, u "UTF16")] 323

def k10m0 : Method := { name := "<init>", desc := "()V", sig := { parameters := [], returnType := none }, accessFlags := 1, code := none }
def k10c1 : Code := { maxStack := 1, maxLocals := 1, code := jdk_42_method_55_code, exceptionTable := #[], attributes := #[] }
def k10m1 : Method := { name := "isEmpty", desc := "()Z", sig := { parameters := [], returnType := some .boolean }, accessFlags := 1, code := some k10c1 }
def k10c2 : Code := { maxStack := 2, maxLocals := 2, code := jdk_42_method_56_code, exceptionTable := #[], attributes := #[] }
def k10m2 : Method := { name := "charAt", desc := "(I)C", sig := { parameters := [.int], returnType := some .char }, accessFlags := 1, code := some k10c2 }
def k10c3 : Code := { maxStack := 1, maxLocals := 1, code := jdk_42_method_154_code, exceptionTable := #[], attributes := #[] }
def k10m3 : Method := { name := "isLatin1", desc := "()Z", sig := { parameters := [], returnType := some .boolean }, accessFlags := 0, code := some k10c3 }
def k10c4 : Code := { maxStack := 3, maxLocals := 2, code := jdk_42_method_155_code, exceptionTable := #[], attributes := #[] }
def k10m4 : Method := { name := "checkIndex", desc := "(II)V", sig := { parameters := [.int, .int], returnType := none }, accessFlags := 8, code := some k10c4 }
/-- java/lang/String -/
def k10 : Class := { plain "java/lang/String" (some 0) with
  accessFlags := 49
  interfaces := #[4, 3, 8, 2, 9]
  cf := some (fileOf pool10 10 #[.nestMembers #[1103]] #[{ accessFlags := 1, nameIndex := 5, descriptorIndex := 6, attributes := #[] }, { accessFlags := 1, nameIndex := 692, descriptorIndex := 142, attributes := #[] }, { accessFlags := 1, nameIndex := 497, descriptorIndex := 427, attributes := #[] }, { accessFlags := 0, nameIndex := 494, descriptorIndex := 142, attributes := #[] }, { accessFlags := 8, nameIndex := 501, descriptorIndex := 391, attributes := #[] }] 49 2 #[1106, 1108, 575, 1110, 1112] #[{ accessFlags := 18, nameIndex := 13, descriptorIndex := 14, attributes := #[] }, { accessFlags := 18, nameIndex := 17, descriptorIndex := 18, attributes := #[] }, { accessFlags := 2, nameIndex := 21, descriptorIndex := 22, attributes := #[] }, { accessFlags := 2, nameIndex := 25, descriptorIndex := 26, attributes := #[] }, { accessFlags := 26, nameIndex := 1116, descriptorIndex := 1117, attributes := #[] }, { accessFlags := 24, nameIndex := 40, descriptorIndex := 26, attributes := #[] }, { accessFlags := 26, nameIndex := 1101, descriptorIndex := 1102, attributes := #[] }, { accessFlags := 26, nameIndex := 1121, descriptorIndex := 1122, attributes := #[] }, { accessFlags := 25, nameIndex := 599, descriptorIndex := 600, attributes := #[] }, { accessFlags := 24, nameIndex := 1125, descriptorIndex := 18, attributes := #[] }, { accessFlags := 24, nameIndex := 1127, descriptorIndex := 18, attributes := #[] }])
  fields := #[{ name := "value", type := (.array .byte), accessFlags := 18, slot := 0, constantValue := 0 }, { name := "coder", type := .byte, accessFlags := 18, slot := 1, constantValue := 0 }, { name := "hash", type := .int, accessFlags := 2, slot := 2, constantValue := 0 }, { name := "hashIsZero", type := .boolean, accessFlags := 2, slot := 3, constantValue := 0 }, { name := "serialVersionUID", type := .long, accessFlags := 26, slot := 0, constantValue := 0 }, { name := "COMPACT_STRINGS", type := .boolean, accessFlags := 24, slot := 1, constantValue := 0 }, { name := "serialPersistentFields", type := (.array (.object "java/io/ObjectStreamField")), accessFlags := 26, slot := 2, constantValue := 0 }, { name := "REPL", type := .char, accessFlags := 26, slot := 3, constantValue := 0 }, { name := "CASE_INSENSITIVE_ORDER", type := (.object "java/util/Comparator"), accessFlags := 25, slot := 4, constantValue := 0 }, { name := "LATIN1", type := .byte, accessFlags := 24, slot := 5, constantValue := 0 }, { name := "UTF16", type := .byte, accessFlags := 24, slot := 6, constantValue := 0 }]
  methods := #[k10m0, k10m1, k10m2, k10m3, k10m4]
  instanceTypes := #[(.array .byte), .byte, .int, .boolean]
  staticTypes := #[.long, .boolean, (.array (.object "java/io/ObjectStreamField")), .char, (.object "java/util/Comparator"), .byte, .byte]
  resolved := Array.replicate 1451 none
  statics := some 2 }

def pool11 : Array CpInfo := pool [(1, .class_ 2), (0, u "java/lang/String"), (1, .class_ 6), (1, u "java/lang/Object"), (0, u "<init>"), (0, u "()V"), (0, .methodref 1 10), (0, .nameAndType 11 12), (0, u "checkIndex"), (0, u "(II)V"), (1, .class_ 16), (1, u "java/lang/StringLatin1"), (36, u "([BI)C"), (67, u "$assertionsDisabled"), (0, u "Z"), (98, .class_ 223), (1, u "java/lang/StringLatin1$LinesSpliterator"), (28, u "charAt"), (137, .class_ 391), (0, u "java/lang/StringLatin1$CharsSpliterator")] 3

def k11m0 : Method := { name := "<init>", desc := "()V", sig := { parameters := [], returnType := none }, accessFlags := 0, code := none }
def k11c1 : Code := { maxStack := 2, maxLocals := 2, code := jdk_43_method_2_code, exceptionTable := #[], attributes := #[] }
def k11m1 : Method := { name := "charAt", desc := "([BI)C", sig := { parameters := [(.array .byte), .int], returnType := some .char }, accessFlags := 9, code := some k11c1 }
/-- java/lang/StringLatin1 -/
def k11 : Class := { plain "java/lang/StringLatin1" (some 0) with
  accessFlags := 48
  interfaces := #[]
  cf := some (fileOf pool11 14 #[.nestMembers #[390, 221]] #[{ accessFlags := 0, nameIndex := 7, descriptorIndex := 8, attributes := #[] }, { accessFlags := 9, nameIndex := 252, descriptorIndex := 53, attributes := #[] }] 48 4 #[] #[{ accessFlags := 4120, nameIndex := 121, descriptorIndex := 122, attributes := #[] }])
  fields := #[{ name := "$assertionsDisabled", type := .boolean, accessFlags := 4120, slot := 0, constantValue := 0 }]
  methods := #[k11m0, k11m1]
  instanceTypes := #[]
  staticTypes := #[.boolean]
  resolved := Array.replicate 395 none
  statics := none }

def pool12 : Array CpInfo := pool [(2, .class_ 4), (1, u "java/lang/Object"), (0, u "<init>"), (0, u "()V"), (17, .class_ 26), (1, u "jdk/internal/util/Preconditions"), (6, u "checkIndex"), (21, .class_ 56), (0, u "jdk/internal/util/Preconditions$4"), (57, .class_ 115), (0, u "jdk/internal/util/Preconditions$1"), (7, u "SIOOBE_FORMATTER"), (0, u "Ljava/util/function/BiFunction;"), (0, .class_ 126), (0, u "jdk/internal/util/Preconditions$2"), (3, u "AIOOBE_FORMATTER"), (0, .class_ 132), (0, u "jdk/internal/util/Preconditions$3"), (3, u "IOOBE_FORMATTER"), (41, u "(IILjava/util/function/BiFunction;)I")] 15

def k12m0 : Method := { name := "<init>", desc := "()V", sig := { parameters := [], returnType := none }, accessFlags := 1, code := none }
def k12c1 : Code := { maxStack := 3, maxLocals := 3, code := jdk_41_method_11_code, exceptionTable := #[], attributes := #[] }
def k12m1 : Method := { name := "checkIndex", desc := "(IILjava/util/function/BiFunction;)I", sig := { parameters := [.int, .int, (.object "java/util/function/BiFunction")], returnType := some .int }, accessFlags := 9, code := some k12c1 }
/-- jdk/internal/util/Preconditions -/
def k12 : Class := { plain "jdk/internal/util/Preconditions" (some 0) with
  accessFlags := 33
  interfaces := #[]
  cf := some (fileOf pool12 24 #[.nestMembers #[55, 131, 125, 114]] #[{ accessFlags := 1, nameIndex := 5, descriptorIndex := 6, attributes := #[] }, { accessFlags := 9, nameIndex := 33, descriptorIndex := 178, attributes := #[] }] 33 2 #[] #[{ accessFlags := 25, nameIndex := 123, descriptorIndex := 124, attributes := #[] }, { accessFlags := 25, nameIndex := 130, descriptorIndex := 124, attributes := #[] }, { accessFlags := 25, nameIndex := 136, descriptorIndex := 124, attributes := #[] }])
  fields := #[{ name := "SIOOBE_FORMATTER", type := (.object "java/util/function/BiFunction"), accessFlags := 25, slot := 0, constantValue := 0 }, { name := "AIOOBE_FORMATTER", type := (.object "java/util/function/BiFunction"), accessFlags := 25, slot := 1, constantValue := 0 }, { name := "IOOBE_FORMATTER", type := (.object "java/util/function/BiFunction"), accessFlags := 25, slot := 2, constantValue := 0 }]
  methods := #[k12m0, k12m1]
  instanceTypes := #[]
  staticTypes := #[(.object "java/util/function/BiFunction"), (.object "java/util/function/BiFunction"), (.object "java/util/function/BiFunction")]
  resolved := Array.replicate 194 none
  statics := some 3 }

def pool13 : Array CpInfo := pool [(9, u "<init>"), (6, .class_ 18), (1, u "java/lang/Object"), (0, u "()V"), (1, .class_ 23), (1, u "jdk/internal/util/ArraysSupport"), (0, u "LOG2_ARRAY_LONG_INDEX_SCALE"), (0, u "I"), (2, u "U"), (0, u "Ljdk/internal/misc/Unsafe;"), (8, u "BIG_ENDIAN"), (0, u "Z"), (8, u "LOG2_BYTE_BIT_SIZE"), (4, u "LOG2_ARRAY_INT_INDEX_SCALE"), (54, u "JLA"), (0, u "Ljdk/internal/access/JavaLangAccess;"), (11, u "LOG2_ARRAY_BOOLEAN_INDEX_SCALE"), (9, u "LOG2_ARRAY_BYTE_INDEX_SCALE"), (5, u "LOG2_ARRAY_CHAR_INDEX_SCALE"), (5, u "LOG2_ARRAY_SHORT_INDEX_SCALE"), (18, u "LOG2_ARRAY_FLOAT_INDEX_SCALE"), (24, u "LOG2_ARRAY_DOUBLE_INDEX_SCALE"), (89, u "T_BOOLEAN"), (2, u "T_CHAR"), (1, u "T_FLOAT"), (1, u "T_DOUBLE"), (1, u "T_BYTE"), (1, u "T_SHORT"), (1, u "T_INT"), (1, u "T_LONG"), (1, u "SOFT_MAX_ARRAY_LENGTH")] 83

def k13m0 : Method := { name := "<init>", desc := "()V", sig := { parameters := [], returnType := none }, accessFlags := 2, code := none }
/-- jdk/internal/util/ArraysSupport -/
def k13 : Class := { plain "jdk/internal/util/ArraysSupport" (some 0) with
  accessFlags := 33
  interfaces := #[]
  cf := some (fileOf pool13 21 #[] #[{ accessFlags := 2, nameIndex := 9, descriptorIndex := 19, attributes := #[] }] 33 16 #[] #[{ accessFlags := 24, nameIndex := 28, descriptorIndex := 29, attributes := #[] }, { accessFlags := 26, nameIndex := 38, descriptorIndex := 39, attributes := #[] }, { accessFlags := 25, nameIndex := 121, descriptorIndex := 25, attributes := #[] }, { accessFlags := 25, nameIndex := 131, descriptorIndex := 25, attributes := #[] }, { accessFlags := 25, nameIndex := 137, descriptorIndex := 25, attributes := #[] }, { accessFlags := 25, nameIndex := 143, descriptorIndex := 25, attributes := #[] }, { accessFlags := 25, nameIndex := 53, descriptorIndex := 25, attributes := #[] }, { accessFlags := 25, nameIndex := 24, descriptorIndex := 25, attributes := #[] }, { accessFlags := 25, nameIndex := 162, descriptorIndex := 25, attributes := #[] }, { accessFlags := 25, nameIndex := 187, descriptorIndex := 25, attributes := #[] }, { accessFlags := 26, nameIndex := 48, descriptorIndex := 25, attributes := #[] }, { accessFlags := 25, nameIndex := 277, descriptorIndex := 25, attributes := #[] }, { accessFlags := 25, nameIndex := 280, descriptorIndex := 25, attributes := #[] }, { accessFlags := 25, nameIndex := 282, descriptorIndex := 25, attributes := #[] }, { accessFlags := 25, nameIndex := 284, descriptorIndex := 25, attributes := #[] }, { accessFlags := 25, nameIndex := 286, descriptorIndex := 25, attributes := #[] }, { accessFlags := 25, nameIndex := 288, descriptorIndex := 25, attributes := #[] }, { accessFlags := 25, nameIndex := 290, descriptorIndex := 25, attributes := #[] }, { accessFlags := 25, nameIndex := 292, descriptorIndex := 25, attributes := #[] }, { accessFlags := 26, nameIndex := 108, descriptorIndex := 109, attributes := #[] }, { accessFlags := 25, nameIndex := 294, descriptorIndex := 25, attributes := #[] }])
  fields := #[{ name := "U", type := (.object "jdk/internal/misc/Unsafe"), accessFlags := 24, slot := 0, constantValue := 0 }, { name := "BIG_ENDIAN", type := .boolean, accessFlags := 26, slot := 1, constantValue := 0 }, { name := "LOG2_ARRAY_BOOLEAN_INDEX_SCALE", type := .int, accessFlags := 25, slot := 2, constantValue := 0 }, { name := "LOG2_ARRAY_BYTE_INDEX_SCALE", type := .int, accessFlags := 25, slot := 3, constantValue := 0 }, { name := "LOG2_ARRAY_CHAR_INDEX_SCALE", type := .int, accessFlags := 25, slot := 4, constantValue := 0 }, { name := "LOG2_ARRAY_SHORT_INDEX_SCALE", type := .int, accessFlags := 25, slot := 5, constantValue := 0 }, { name := "LOG2_ARRAY_INT_INDEX_SCALE", type := .int, accessFlags := 25, slot := 6, constantValue := 0 }, { name := "LOG2_ARRAY_LONG_INDEX_SCALE", type := .int, accessFlags := 25, slot := 7, constantValue := 0 }, { name := "LOG2_ARRAY_FLOAT_INDEX_SCALE", type := .int, accessFlags := 25, slot := 8, constantValue := 0 }, { name := "LOG2_ARRAY_DOUBLE_INDEX_SCALE", type := .int, accessFlags := 25, slot := 9, constantValue := 0 }, { name := "LOG2_BYTE_BIT_SIZE", type := .int, accessFlags := 26, slot := 10, constantValue := 0 }, { name := "T_BOOLEAN", type := .int, accessFlags := 25, slot := 11, constantValue := 0 }, { name := "T_CHAR", type := .int, accessFlags := 25, slot := 12, constantValue := 0 }, { name := "T_FLOAT", type := .int, accessFlags := 25, slot := 13, constantValue := 0 }, { name := "T_DOUBLE", type := .int, accessFlags := 25, slot := 14, constantValue := 0 }, { name := "T_BYTE", type := .int, accessFlags := 25, slot := 15, constantValue := 0 }, { name := "T_SHORT", type := .int, accessFlags := 25, slot := 16, constantValue := 0 }, { name := "T_INT", type := .int, accessFlags := 25, slot := 17, constantValue := 0 }, { name := "T_LONG", type := .int, accessFlags := 25, slot := 18, constantValue := 0 }, { name := "JLA", type := (.object "jdk/internal/access/JavaLangAccess"), accessFlags := 26, slot := 19, constantValue := 0 }, { name := "SOFT_MAX_ARRAY_LENGTH", type := .int, accessFlags := 25, slot := 20, constantValue := 0 }]
  methods := #[k13m0]
  instanceTypes := #[]
  staticTypes := #[(.object "jdk/internal/misc/Unsafe"), .boolean, .int, .int, .int, .int, .int, .int, .int, .int, .int, .int, .int, .int, .int, .int, .int, .int, .int, (.object "jdk/internal/access/JavaLangAccess"), .int]
  resolved := Array.replicate 378 none
  statics := none }

def pool14 : Array CpInfo := pool [(1, u "java/lang/Cloneable"), (0, .class_ 1), (0, u "java/lang/Object"), (0, .class_ 3)] 3

/-- java/lang/Cloneable -/
def k14 : Class := { plain "java/lang/Cloneable" (some 0) with
  accessFlags := 1537
  interfaces := #[]
  cf := some (fileOf pool14 2 #[] #[] 1537 4 #[] #[])
  fields := #[]
  methods := #[]
  instanceTypes := #[]
  staticTypes := #[]
  resolved := Array.replicate 8 none
  statics := none }

/-- the primitive byte -/
def k15 : Class := { plain "byte" none with kind := .primitive 'B', accessFlags := 0x411 }
/-- [B -/
def k16 : Class := { plain "[B" (some 0) with kind := .array 15 .byte, interfaces := #[14, 4], accessFlags := 1041 }

/-- the primitive int -/
def k17 : Class := { plain "int" none with kind := .primitive 'I', accessFlags := 0x411 }
/-- [I -/
def k18 : Class := { plain "[I" (some 0) with kind := .array 17 .int, interfaces := #[14, 4], accessFlags := 1041 }

/-- [Lcom/example/zia_tally/ziatally/evaluation/Method; -/
def k19 : Class := { plain "[Lcom/example/zia_tally/ziatally/evaluation/Method;" (some 0) with kind := .array 6 (.object "com/example/zia_tally/ziatally/evaluation/Method"), interfaces := #[14, 4], accessFlags := 1041 }

def heap : Heap := #[{ cls := 6, slots := #[.ref 4, .ref 5, .ref 6, .null], vm := .statics 6 },
  { cls := 7, slots := #[.ref 7, .ref 8, .null, .null, .ref 9, .ref 10, .null, .null], vm := .statics 7 },
  { cls := 10, slots := #[.long 0, .int 1, .null, .int 0, .null, .int 0, .int 0], vm := .statics 10 },
  { cls := 12, slots := #[.null, .null, .null], vm := .statics 12 },
  { cls := 6, slots := #[.null, .int 0, .int 0, .ref 11, .null, .ref 7, .ref 8], vm := .none },
  { cls := 6, slots := #[.null, .int 1, .int 0, .ref 14, .null, .ref 9, .ref 10], vm := .none },
  { cls := 6, slots := #[.null, .int 2, .int 0, .ref 13, .null, .ref 9, .ref 10], vm := .none },
  { cls := 7, slots := #[.null, .int 0, .int 0, .null], vm := .none },
  { cls := 7, slots := #[.null, .int 1, .int 0, .null], vm := .none },
  { cls := 7, slots := #[.null, .int 4, .int 0, .null], vm := .none },
  { cls := 7, slots := #[.null, .int 5, .int 0, .null], vm := .none },
  { cls := 10, slots := #[.ref 12, .int 0, .int 0, .int 0], vm := .none },
  { cls := 16, slots := #[.int 98, .int 105, .int 100], vm := .none },
  { cls := 10, slots := #[.ref 15, .int 0, .int 0, .int 0], vm := .none },
  { cls := 10, slots := #[.ref 16, .int 0, .int 0, .int 0], vm := .none },
  { cls := 16, slots := #[.int 112, .int 114, .int 111, .int 112, .int 111, .int 115, .int 97, .int 108, .int 45, .int 119, .int 101, .int 105, .int 103, .int 104, .int 116, .int 115], vm := .none },
  { cls := 16, slots := #[.int 112, .int 114, .int 111, .int 112, .int 111, .int 115, .int 97, .int 108, .int 45, .int 112, .int 111, .int 105, .int 110, .int 116, .int 115], vm := .none }]
def classes : Array Class := #[k0, k1, k2, k3, k4, k5, k6, k7, k8, k9, k10, k11, k12, k13, k14, k15, k16, k17, k18, k19]
def interned : List (Array UInt16 × Addr) := []
def slotsUsed : Nat := 105
def theMethod : MethodId := ⟨1, 1⟩
def args0 : Array Value := #[.int 5]
def aboutOver (below : List Frame) : State where
  vm := { classes := classes, interned := interned.toArray }
  heap := heap
  slotsUsed := slotsUsed
  threads := #[{ frames := .invoking theMethod args0 :: below }]
def below0 : List Frame := [.native { method := ⟨0, 0⟩, args := #[] }]
def about1 : State := aboutOver below0
def p0 : Program := .bare "" "" ""
def e0 : Env := launch0.env 0 0 0
theorem w_frames : about1.frames = Frame.invoking theMethod args0 :: below0 := rfl
set_option maxRecDepth 65536 in
theorem w_args : argsFit about1.vm theMethod args0 = true := by decide +kernel
set_option maxRecDepth 65536 in
theorem w_heap : heapFits about1 = true := by decide +kernel
set_option maxRecDepth 65536 in
theorem w_runnable : about1.curStatus? = some .runnable := by decide +kernel
set_option maxRecDepth 65536 in
theorem w_alone : about1.alone = true := by decide +kernel
set_option maxRecDepth 65536 in
theorem w_named : about1.methodNamed? x = some theMethod := by decide +kernel
set_option maxRecDepth 65536 in
theorem w_hears : about1.hears theMethod below0 = true := by decide +kernel
set_option maxRecDepth 65536 in
theorem w_ripe : about1.ripe theMethod args0 below0 = true := by decide +kernel
theorem w_running : about1.status = .running := rfl
set_option maxRecDepth 65536 in
theorem w_room : about1.hasRoom e0.platform room_1 = true :=
  launch0.hasRoom_least _ room_1 (by decide +kernel) (by decide +kernel) (by decide +kernel) (by decide +kernel) (by decide +kernel) (by decide +kernel)
theorem allAtoms_all (ts : List Jvm.Cond) (a : Array Jvm.Value) (st : Jvm.State) : (allAtoms ts).before a st = ts.all (fun c => c.before a st) := by
  induction ts with
  | nil => rfl
  | cons c t ih =>
    show (Jvm.Cond.and c (allAtoms t)).before a st = _
    rw [Jvm.Cond.before_and, ih, List.all_cons]
def words1 : List Jvm.Cond := Jvm.Cond.code x code maxLocals ret :: tables_1
/-- a 'code' word, met by the world's own term for the bytes: nothing is compared byte by byte -/
theorem code_word {y : MethodName} {bytes : ByteArray} {mx : Nat} {rt : Option FieldType} {a : Array Value} {s : State} {m : MethodId} {meth : Method} {c : Code} (h1 : s.methodNamed? y = some m) (h2 : s.vm.method? m = some meth) (h3 : meth.code = some c) (h4 : c.code = bytes)
    (h5 : (c.maxLocals == mx && c.exceptionTable.isEmpty && decide (c.maxStack ≤ mostOperands) && decide (meth.sig.returnType = rt) && !meth.locks && decide (parseMethodDescriptor y.desc = some meth.sig)) = true) : (Jvm.Cond.code y bytes mx rt).before a s = true := by
  simp only [Bool.and_eq_true, beq_iff_eq, Bool.not_eq_true', decide_eq_true_eq] at h5
  obtain ⟨⟨⟨⟨⟨g1, g2⟩, g3⟩, g4⟩, g5⟩, g6⟩ := h5
  simp [Cond.before, Cond.holds, Cond.value, h1, h2, h3, h4, g1, g2, g3, g4, g5, g6]
def isCode : Jvm.Cond → Bool
  | .code _ _ _ _ => true
  | _ => false
theorem all_split {L : List Jvm.Cond} {P : Jvm.Cond → Bool} (h1 : L.all (fun c => isCode c || P c) = true) (h2 : ∀ c ∈ L.filter isCode, P c = true) : L.all P = true := by
  refine List.all_eq_true.mpr fun c hc => ?_
  have h := List.all_eq_true.mp h1 c hc
  rcases Bool.eq_false_or_eq_true (isCode c) with hi | hi
  · exact h2 c (List.mem_filter.mpr ⟨hc, hi⟩)
  · simpa [hi] using h
set_option maxRecDepth 65536 in
theorem w_c0 : (Jvm.Cond.code x code maxLocals ret).before args0 about1 = true := code_word (m := ⟨1, 1⟩) (meth := k1m1) (c := k1c1) (by decide +kernel) rfl rfl rfl (by decide +kernel)
set_option maxRecDepth 65536 in
theorem w_c1 : (Jvm.Cond.code ({ cls := "com/example/zia_tally/ziatally/evaluation/Method", name := "isProposal", desc := "()Z" } : Jvm.MethodName) prog_7_method_5_code (1 : Nat) (Option.some Jvm.ClassFile.FieldType.boolean)).before args0 about1 = true := code_word (m := ⟨6, 1⟩) (meth := k6m1) (c := k6c1) (by decide +kernel) rfl rfl rfl (by decide +kernel)
set_option maxRecDepth 65536 in
theorem w_c2 : (Jvm.Cond.code ({ cls := "com/example/zia_tally/ziatally/evaluation/Method", name := "outcome", desc := "(Z)Lcom/example/zia_tally/ziatally/evaluation/Outcome;" } : Jvm.MethodName) prog_7_method_7_code (2 : Nat) (Option.some (Jvm.ClassFile.FieldType.object "com/example/zia_tally/ziatally/evaluation/Outcome"))).before args0 about1 = true := code_word (m := ⟨6, 2⟩) (meth := k6m2) (c := k6c2) (by decide +kernel) rfl rfl rfl (by decide +kernel)
set_option maxRecDepth 65536 in
theorem w_c3 : (Jvm.Cond.code ({ cls := "com/example/zia_tally/ziatally/evaluation/Method", name := "code", desc := "()Ljava/lang/String;" } : Jvm.MethodName) prog_7_method_4_code (1 : Nat) (Option.some (Jvm.ClassFile.FieldType.object "java/lang/String"))).before args0 about1 = true := code_word (m := ⟨6, 0⟩) (meth := k6m0) (c := k6c0) (by decide +kernel) rfl rfl rfl (by decide +kernel)
set_option maxRecDepth 65536 in
theorem w_c4 : (Jvm.Cond.code ({ cls := "java/lang/String", name := "isEmpty", desc := "()Z" } : Jvm.MethodName) jdk_42_method_55_code (1 : Nat) (Option.some Jvm.ClassFile.FieldType.boolean)).before args0 about1 = true := code_word (m := ⟨10, 1⟩) (meth := k10m1) (c := k10c1) (by decide +kernel) rfl rfl rfl (by decide +kernel)
set_option maxRecDepth 65536 in
theorem w_c5 : (Jvm.Cond.code ({ cls := "java/lang/String", name := "charAt", desc := "(I)C" } : Jvm.MethodName) jdk_42_method_56_code (2 : Nat) (Option.some Jvm.ClassFile.FieldType.char)).before args0 about1 = true := code_word (m := ⟨10, 2⟩) (meth := k10m2) (c := k10c2) (by decide +kernel) rfl rfl rfl (by decide +kernel)
set_option maxRecDepth 65536 in
theorem w_c6 : (Jvm.Cond.code ({ cls := "java/lang/String", name := "isLatin1", desc := "()Z" } : Jvm.MethodName) jdk_42_method_154_code (1 : Nat) (Option.some Jvm.ClassFile.FieldType.boolean)).before args0 about1 = true := code_word (m := ⟨10, 3⟩) (meth := k10m3) (c := k10c3) (by decide +kernel) rfl rfl rfl (by decide +kernel)
set_option maxRecDepth 65536 in
theorem w_c7 : (Jvm.Cond.code ({ cls := "java/lang/StringLatin1", name := "charAt", desc := "([BI)C" } : Jvm.MethodName) jdk_43_method_2_code (2 : Nat) (Option.some Jvm.ClassFile.FieldType.char)).before args0 about1 = true := code_word (m := ⟨11, 1⟩) (meth := k11m1) (c := k11c1) (by decide +kernel) rfl rfl rfl (by decide +kernel)
set_option maxRecDepth 65536 in
theorem w_c8 : (Jvm.Cond.code ({ cls := "java/lang/String", name := "checkIndex", desc := "(II)V" } : Jvm.MethodName) jdk_42_method_155_code (2 : Nat) (Option.none : Option Jvm.ClassFile.FieldType)).before args0 about1 = true := code_word (m := ⟨10, 4⟩) (meth := k10m4) (c := k10c4) (by decide +kernel) rfl rfl rfl (by decide +kernel)
set_option maxRecDepth 65536 in
theorem w_c9 : (Jvm.Cond.code ({ cls := "jdk/internal/util/Preconditions", name := "checkIndex", desc := "(IILjava/util/function/BiFunction;)I" } : Jvm.MethodName) jdk_41_method_11_code (3 : Nat) (Option.some Jvm.ClassFile.FieldType.int)).before args0 about1 = true := code_word (m := ⟨12, 1⟩) (meth := k12m1) (c := k12c1) (by decide +kernel) rfl rfl rfl (by decide +kernel)
def codes1 : List Jvm.Cond := [Jvm.Cond.code x code maxLocals ret, Jvm.Cond.code ({ cls := "com/example/zia_tally/ziatally/evaluation/Method", name := "isProposal", desc := "()Z" } : Jvm.MethodName) prog_7_method_5_code (1 : Nat) (Option.some Jvm.ClassFile.FieldType.boolean), Jvm.Cond.code ({ cls := "com/example/zia_tally/ziatally/evaluation/Method", name := "outcome", desc := "(Z)Lcom/example/zia_tally/ziatally/evaluation/Outcome;" } : Jvm.MethodName) prog_7_method_7_code (2 : Nat) (Option.some (Jvm.ClassFile.FieldType.object "com/example/zia_tally/ziatally/evaluation/Outcome")), Jvm.Cond.code ({ cls := "com/example/zia_tally/ziatally/evaluation/Method", name := "code", desc := "()Ljava/lang/String;" } : Jvm.MethodName) prog_7_method_4_code (1 : Nat) (Option.some (Jvm.ClassFile.FieldType.object "java/lang/String")), Jvm.Cond.code ({ cls := "java/lang/String", name := "isEmpty", desc := "()Z" } : Jvm.MethodName) jdk_42_method_55_code (1 : Nat) (Option.some Jvm.ClassFile.FieldType.boolean), Jvm.Cond.code ({ cls := "java/lang/String", name := "charAt", desc := "(I)C" } : Jvm.MethodName) jdk_42_method_56_code (2 : Nat) (Option.some Jvm.ClassFile.FieldType.char), Jvm.Cond.code ({ cls := "java/lang/String", name := "isLatin1", desc := "()Z" } : Jvm.MethodName) jdk_42_method_154_code (1 : Nat) (Option.some Jvm.ClassFile.FieldType.boolean), Jvm.Cond.code ({ cls := "java/lang/StringLatin1", name := "charAt", desc := "([BI)C" } : Jvm.MethodName) jdk_43_method_2_code (2 : Nat) (Option.some Jvm.ClassFile.FieldType.char), Jvm.Cond.code ({ cls := "java/lang/String", name := "checkIndex", desc := "(II)V" } : Jvm.MethodName) jdk_42_method_155_code (2 : Nat) (Option.none : Option Jvm.ClassFile.FieldType), Jvm.Cond.code ({ cls := "jdk/internal/util/Preconditions", name := "checkIndex", desc := "(IILjava/util/function/BiFunction;)I" } : Jvm.MethodName) jdk_41_method_11_code (3 : Nat) (Option.some Jvm.ClassFile.FieldType.int)]
set_option maxRecDepth 65536 in
theorem codes_eq : words1.filter isCode = codes1 := rfl
theorem w_codes : ∀ c ∈ words1.filter isCode, c.before args0 about1 = true := by
  rw [codes_eq]
  intro c hc
  simp only [codes1, List.mem_cons, List.not_mem_nil, or_false] at hc
  rcases hc with rfl | rfl | rfl | rfl | rfl | rfl | rfl | rfl | rfl | rfl
  · exact w_c0
  · exact w_c1
  · exact w_c2
  · exact w_c3
  · exact w_c4
  · exact w_c5
  · exact w_c6
  · exact w_c7
  · exact w_c8
  · exact w_c9
set_option maxRecDepth 65536 in
theorem w_t1 : (words1.take 24).all (fun c => isCode c || c.before args0 about1) = true := by decide +kernel
set_option maxRecDepth 65536 in
theorem w_t2 : ((words1.drop 24).take 24).all (fun c => isCode c || c.before args0 about1) = true := by decide +kernel
set_option maxRecDepth 65536 in
theorem w_t3 : (((words1.drop 24).drop 24).take 24).all (fun c => isCode c || c.before args0 about1) = true := by decide +kernel
set_option maxRecDepth 65536 in
theorem w_t4 : (((words1.drop 24).drop 24).drop 24).all (fun c => isCode c || c.before args0 about1) = true := by decide +kernel
theorem w_tables : (allAtoms (Jvm.Cond.code x code maxLocals ret :: tables_1)).before args0 about1 = true := by
  rw [allAtoms_all]
  show words1.all (fun c => c.before args0 about1) = true
  refine all_split ?_ w_codes
  rw [← List.take_append_drop 24 words1, List.all_append, w_t1, ← List.take_append_drop 24 (words1.drop 24), List.all_append, w_t2, ← List.take_append_drop 24 ((words1.drop 24).drop 24), List.all_append, w_t3, w_t4]
  rfl
set_option maxRecDepth 65536 in
theorem w_rest : rest_1_c.before args0 about1 = true := by decide +kernel
set_option maxRecDepth 65536 in
theorem w_case : (Jvm.Cond.and given_1 narrow_1).before args0 about1 = true := by decide +kernel
theorem w_applies : (headSpec (Jvm.Cond.code x code maxLocals ret :: tables_1) room_1).applies x e0.platform about1 = true :=
  (Spec.applies_iff w_frames).mpr ⟨w_running, w_runnable, w_alone, w_named, w_hears, w_ripe, w_room, w_tables⟩
theorem atStart : AtStart classFile x code maxLocals ret World_1 tables_1 room_1 Calls_1 rest_1 Pre_1 launch0 p0 e0 about1 theMethod args0 below0 :=
  ⟨lists_1, trivial, launch0.admits_env _ _ _, launch0.least_env, fairChoices_fair.cas, fairChoices_fair.clock, w_frames, w_args, w_heap, w_applies, trivial, w_rest, w_case⟩
end start1
theorem witness_1 : WitnessClaimed_1 := ⟨start1.p0, start1.e0, start1.about1, start1.theMethod, start1.args0, start1.below0, start1.atStart⟩
end Jvm.Pilot.@@N@@
