import JvmDerived
import JvmDerived.Pilot.@@N@@Statement
import JvmDerived.Pilot.@@N@@Code
set_option linter.unusedVariables false
set_option linter.unusedSimpArgs false
namespace Jvm.RoadKit
open Sem ClassFile Op Lib Jvm.Stand Jvm.Free Jvm.LawKit
section New
variable {p : Program} {l : Launch} {e : Env} {R : Room} {s : State} {m : MethodId} {args : Array Value} {below : List Frame} {meth : Method} {c : Code} {T : State} {locs : List Loc} {cells slots : Nat}
theorem retI (X : Stand p l e R s m args below meth c T locs cells slots) (hx : p.tables.exec = Jvm.exec) {pc : Nat} {Ls : Array Slot} {z : Int32} {rest : List Value} (hret : meth.sig.returnType = some .int) (hd : decode c.code pc = .ok (.ireturn, 1)) {fs : List Frame}
    (hl : ∀ (f : JFrame) (acts : List Action), f.method = m → f.locked = none → f.entered = [] → (doReturn e (T.setTop f) acts (some (.int z))).1 = T.setFrames fs) : Steps p.tables e below (T.setTop (mkF m pc Ls (.int z :: rest))) (T.setFrames fs) := by
  have hm' : T.vm.method? m = some meth := X.method'
  have hn : narrow .int (.int z) = .int z := rfl
  show Steps p.tables e below (T.setTop { method := m, pc := pc, locals := Ls, stack := _ :: rest, locked := none }) _
  jvm_step X.here [X.here.top, hx, hd, hm', hret, hn]
  first | (intro acts; rw [hl _ acts rfl rfl rfl]) | rw [hl _ _ rfl rfl rfl]
  exact Steps.refl _
end New
end Jvm.RoadKit
namespace Jvm.Pilot.@@N@@
open Jvm Jvm.ClassFile Sem Op Lib Jvm.Free Jvm.Stand Jvm.LawKit Jvm.RoadKit Bundle Jvm.Pilot.@@N@@.Jvm.D
theorem own_eqI {t : Term} {n : Int32} {args : Array Value} {s : State} (h : (Jvm.Cond.eq t (.int n)).value args s none s [] = some true) : t.eval args s none [] s = some (.int n) := by
  simp only [Cond.value, Term.eval] at h
  cases ht : t.eval args s none [] s with
  | none => simp [ht] at h
  | some x => cases x <;> simp [ht] at h ⊢; exact h
theorem own_eqJ {t : Term} {n : Int64} {args : Array Value} {s : State} (h : (Jvm.Cond.eq t (.long n)).value args s none s [] = some true) : t.eval args s none [] s = some (.long n) := by
  simp only [Cond.value, Term.eval] at h
  cases ht : t.eval args s none [] s with
  | none => simp [ht] at h
  | some x => cases x <;> simp [ht] at h ⊢; exact h
theorem own_eqR {t u : Term} {a : Addr} {args : Array Value} {s : State} (h : (Jvm.Cond.eq t u).value args s none s [] = some true) (hu : u.eval args s none [] s = some (.ref a)) : t.eval args s none [] s = some (.ref a) := by
  simp only [Cond.value, hu] at h
  cases ht : t.eval args s none [] s with
  | none => simp [ht] at h
  | some x => cases x <;> simp [ht] at h ⊢; exact h
theorem own_len {t : Term} {w : Addr} {c : Cell} {ty : FieldType} {n : Int32} {args : Array Value} {s : State} (ev : t.eval args s none [] s = some (.ref w)) (A : Arr s s.heap w c ty) (h : (Term.length t).eval args s none [] s = some (.int n)) (hn : ¬ n < 0) : c.slots.size = n.toNatClampNeg := by
  simp only [Term.eval, ev, A.fin (Vm.Alike.refl _), Option.bind_eq_bind, Option.bind_some] at h
  split at h
  · rename_i hl
    have q : c.slots.size.toInt32 = n := by simpa using h
    rw [← q]
    have q2 : c.slots.size.toInt32.toInt = (c.slots.size : Int) := len_toInt hl
    have q3 := nat_of (j := c.slots.size.toInt32) (by rw [q]; exact hn)
    omega
  · simp at h
theorem own_extW {Z : State} {h h' : Heap} {a : Addr} {sl : Nat} {v : Value} (X : Ext Z.heap h) (W : Wr h h' a sl v) (q : Z.heap.size ≤ a) : Ext Z.heap h' := (Old.wr (Z := Z) ⟨rfl, X⟩ W q).2
theorem own_ext2 {h h' h'' : Heap} (X : Ext h h') (E : Ext h' h'') : Ext h h'' := ⟨Nat.le_trans X.1 E.1, fun x c q => E.2 x c (X.2 x c q)⟩
theorem own_extK {Z : State} {h h' : Heap} {ws : List Addr} (X : Ext Z.heap h) (K : Keep h h' ws) (q : ∀ x ∈ ws, Z.heap.size ≤ x) : Ext Z.heap h' := (Old.keep (Z := Z) ⟨rfl, X⟩ K q).2
theorem own_neI {t : Term} {n x : Int32} {args : Array Value} {s : State} (h : (Jvm.Cond.eq t (.int n)).value args s none s [] = some (!true)) (ev : t.eval args s none [] s = some (.int x)) : ¬ (x = n) := by
  intro q
  subst q
  simp [Cond.value, Term.eval, ev] at h
theorem own_nsRoot {Z : State} {a0 : Array Value} {O K : String} {n : Nat} (w : (Jvm.Cond.noSuperclass O).before a0 Z = true) (wk : (Jvm.Cond.instantiable K n).before a0 Z = true) (hn : O ≠ K) : NS Z O K := by
  obtain ⟨c, k, h1, h2, h3, -, -⟩ := Cond.noSuperclass_spec w
  obtain ⟨t, k', g1, -⟩ := Cond.instantiable_spec wk
  have ne := ids_ne h1 g1 hn
  refine ⟨c, t, h1, g1, fun fuel => ?_⟩
  cases fuel with
  | zero => rfl
  | succ f => simp [Vm.isSubclassAux, ne, h2, h3]
theorem own_nsNo {Z : State} {a0 : Array Value} {C S K : String} {n : Nat} (w : (Jvm.Cond.superclass C S).before a0 Z = true) (wk : (Jvm.Cond.instantiable K n).before a0 Z = true) (N : NS Z C K) (hn : C ≠ K) : ∃ c t, Z.vm.findClass C = some c ∧ Z.vm.findClass K = some t ∧ Z.vm.assignable c t = false := by
  obtain ⟨c, t, h0, g0, n3⟩ := N
  obtain ⟨p, k, kp, h1, h2, h3, h4, h5, -, h7⟩ := Cond.superclass_spec h0 w
  obtain ⟨q, k', g1, g2, g5, g7, -, -⟩ := Cond.instantiable_spec wk
  cases g0.symm.trans g1
  have ne := ids_ne h0 g0 hn
  have gi : k'.isInterface = false := by cases hi : k'.isInterface <;> simp [hi] at g7 ⊢
  refine ⟨c, t, h0, g0, ?_⟩
  show Z.vm.assignableAux (255 + 1) c t = false
  simp [Vm.assignableAux, ne, h2, g2, h5, g5, gi, Vm.isSubclass, n3]
theorem own_nb (x : Int32) : nar .byte (x.toInt8.toInt32) = x.toInt8.toInt32 := by simp [nar]
abbrev own_S (p : Program) (e : Env) (below : List Frame) (T : State) (g : JFrame) (t : State) : Prop := Steps p.tables e below (T.setTop g) t
theorem own_w {Z : State} {a0 : Array Value} (hw : ∀ d ∈ tables_1, d.before a0 Z = true) {d : Jvm.Cond} (i : Nat) (h : tables_1[i]? = some d) : d.before a0 Z = true := hw _ (List.mem_of_getElem? h)
/-- a body's contract: what it returns and leaves -/
abbrev own_met (l : Launch) (y : MethodName) (b : ByteArray) (ml : Nat) (rt : Option FieldType) (ws : List Jvm.Cond) (R : Room) (Z : State) (A : Array Value) (h0 : Heap) (Q : Option Value → Heap → List Loc → Prop) : Prop :=
  MetFree l y (head1 (Jvm.Cond.code y b ml rt :: ws) R) (fun a U => a = A ∧ Z.Warmed39 U.vm ∧ U.heap = h0) (fun _ _ _ _ _ => True) (fun _ U o U' => ∃ v L, o = .returned v ∧ Q v U'.heap L ∧ FrameEnd U o U' L R.cells R.slots)
theorem own_start {l : Launch} {y : MethodName} {b : ByteArray} {ml : Nat} {rt : Option FieldType} {ws : List Jvm.Cond} {R : Room} {Z : State} {A : Array Value} {h0 : Heap} {Q : Option Value → Heap → List Loc → Prop} {Ls : Array Slot}
    (hpl : plainFor y = true) (hef : ∀ m, entryFrame m A ml = mkF m 0 Ls [])
    (body : ∀ p e s m below meth c s₁, p.tables.exec = Jvm.exec → c.code = b → c.maxLocals = ml → s.vm.findClass y.cls = some m.cls → meth.name = y.name → Stand p l e R s m A below meth c s₁ [] 0 0 → Z.Warmed39 s.vm → s₁.heap = h0 → meth.sig.returnType = rt → meth.locks = false →
      ∃ s₂ o, Steps p.tables e below (s₁.setTop (mkF m 0 Ls [])) s₂ ∧ s₂.status = .running ∧ Ended s₂ below o ∧ ∃ v L, o = .returned v ∧ Q v s₂.heap L ∧ FrameEnd s o s₂ L R.cells R.slots) : own_met l y b ml rt ws R Z A h0 Q := by
  refine MetFree.of_bodySF hpl hisR ?_
  intro p e s m args below meth c s₁ Bd hml0 hP hK
  obtain ⟨rfl, hZ, hh⟩ := hP
  obtain ⟨s₂, o, k, r⟩ := body p e s m below meth c s₁ Bd.exec Bd.bytes hml0 (findClass_of_methodNamed Bd.named) (name_of_methodNamed Bd.named Bd.method).1 (Stand.of_body Bd) hZ (by rw [← hh, Bd.state]; rfl) Bd.returns Bd.notSynchronized
  exact ⟨s₂, o, castTop (hef m) k, r⟩
section OwnCalls
variable {p : Program} {l : Launch} {e : Env} {R : Room} {s : State} {m : MethodId} {args : Array Value} {below : List Frame} {meth : Method} {c : Code} {T : State} {locs : List Loc} {cells slots : Nat} {Z : State} {a0 : Array Value} {h : Heap} {own : String} {index : Nat} {y z : MethodName} {b : ByteArray} {ml : Nat} {rt : Option FieldType} {rm : Room} {as' : Array Value} {Q : Option Value → Heap → List Loc → Prop} {W : Nat} {g : JFrame} {argsL rest : List Value}
theorem own_static (X : Stand p l e R s m args below meth c T locs cells slots) (hx : p.tables.exec = Jvm.exec) (hZ : Z.Warmed39 s.vm) (hown : s.vm.findClass own = some m.cls) (w1 : (Jvm.Cond.methodLink own index y).before a0 Z = true) (w2 : (Jvm.Cond.static y).before a0 Z = true) (w3 : (Jvm.Cond.initialized y.cls).before a0 Z = true) (w4 : (Jvm.Cond.code y b ml rt).before a0 Z = true)
    (hy : y.cls ≠ "java/lang/invoke/MethodHandle" ∧ y.cls ≠ "java/lang/invoke/VarHandle") (hM : own_met l y b ml rt [] rm Z as' h Q) (hf : rm.frames + 1 ≤ R.frames) (hl : W + (ml + 11) + rm.locals ≤ R.locals) (eT : T.heap = h) (hg : g.method = m) (hsize : g.locals.size = c.maxLocals) (hlen : ∀ sig, parseMethodDescriptor y.desc = some sig → argsL.length = sig.parameters.length) (ha : argsL.toArray = as')
    (hs : g.stack = argsL.reverse ++ rest) (hW : 2 * g.monitorRoom + (rest.map fun v => v.category).sum ≤ W) (hd : decode c.code g.pc = .ok (.invokestatic index, 3)) (hc : cells + rm.cells ≤ R.cells) (hsl : slots + rm.slots ≤ R.slots) :
    ∃ v T' L, Stand p l e R s m args below meth c T' (locs ++ L) (cells + rm.cells) (slots + rm.slots) ∧ Q v T'.heap L ∧ ∀ target, Steps p.tables e below (T'.setTop { g with pc := g.pc + 3, stack := v.toList ++ rest }) target → Steps p.tables e below (T.setTop g) target := by
  obtain ⟨v, _, ⟨T', L', k', n'⟩, -, X', ⟨Lc, hQ, l1, y1, z1⟩, st⟩ := Jvm.LawKit.callS X hx (y := y) hown (mvT hZ w1) (mvT hZ w2) (mvT hZ w3) (mvT hZ w4) hy (backOf (W := W) hM hZ w4 w3 hf hl) (g := g) hg hsize (argsL := argsL) (rest := rest) hlen hs hW hd (fun _ _ => ⟨ha, eT, hc, hsl⟩)
  dsimp only [Pt.U, Pt.locs, Pt.cells, Pt.slots] at X' l1 y1 z1 st hQ
  subst l1 y1 z1
  exact ⟨v, T', Lc, X', hQ, st⟩
theorem own_special (X : Stand p l e R s m args below meth c T locs cells slots) (hx : p.tables.exec = Jvm.exec) (hZ : Z.Warmed39 s.vm) (hown : s.vm.findClass own = some m.cls) (hn : y.name = "<init>") (w1 : (Jvm.Cond.methodLink own index y).before a0 Z = true) (w2 : (Jvm.Cond.instanceMethod y).before a0 Z = true) (w3 : (Jvm.Cond.initialized y.cls).before a0 Z = true) (w4 : (Jvm.Cond.code y b ml none).before a0 Z = true)
    (hy : y.cls ≠ "java/lang/invoke/MethodHandle" ∧ y.cls ≠ "java/lang/invoke/VarHandle") (hM : own_met l y b ml none [] rm Z as' h Q) (hf : rm.frames + 1 ≤ R.frames) (hl : W + (ml + 11) + rm.locals ≤ R.locals) (eT : T.heap = h) (hg : g.method = m) (hsize : g.locals.size = c.maxLocals) (a : Addr) (hlen : ∀ sig, parseMethodDescriptor y.desc = some sig → argsL.length = sig.parameters.length) (ha : (Value.ref a :: argsL).toArray = as')
    (hs : g.stack = argsL.reverse ++ .ref a :: rest) (hW : 2 * g.monitorRoom + (rest.map fun v => v.category).sum ≤ W) (hd : decode c.code g.pc = .ok (.invokespecial index, 3)) (hc : cells + rm.cells ≤ R.cells) (hsl : slots + rm.slots ≤ R.slots) :
    ∃ v T' L, Stand p l e R s m args below meth c T' (locs ++ L) (cells + rm.cells) (slots + rm.slots) ∧ Q v T'.heap L ∧ ∀ target, Steps p.tables e below (T'.setTop { g with pc := g.pc + 3, stack := v.toList ++ rest }) target → Steps p.tables e below (T.setTop g) target := by
  obtain ⟨v, _, ⟨T', L', k', n'⟩, -, X', ⟨Lc, hQ, l1, y1, z1⟩, st⟩ := X.specialBack hx (y := y) hn hown (mvT hZ w1) (mvT hZ w2) (mvT hZ w4) hy (backOf (W := W) hM hZ w4 w3 hf hl) (g := g) hg hsize (Steps.refl _) (a := a) (argsL := argsL) (rest := rest) hlen hs hW hd (fun _ _ => ⟨ha, eT, hc, hsl⟩)
  dsimp only [Pt.U, Pt.locs, Pt.cells, Pt.slots] at X' l1 y1 z1 st hQ
  subst l1 y1 z1
  exact ⟨v, T', Lc, X', hQ, fun _ k => st.trans k⟩
theorem own_virtual (X : Stand p l e R s m args below meth c T locs cells slots) (hx : p.tables.exec = Jvm.exec) (hZ : Z.Warmed39 s.vm) (hown : s.vm.findClass own = some m.cls) {C : String} (w1 : (Jvm.Cond.methodLink own index y).before a0 Z = true) (w5 : (Jvm.Cond.declares y).before a0 Z = true) (w6 : (Jvm.Cond.selects C y y).before a0 Z = true) (w2 : (Jvm.Cond.instanceMethod y).before a0 Z = true) (w3 : (Jvm.Cond.initialized y.cls).before a0 Z = true) (w4 : (Jvm.Cond.code y b ml rt).before a0 Z = true)
    (hy : y.cls ≠ "java/lang/invoke/MethodHandle" ∧ y.cls ≠ "java/lang/invoke/VarHandle") (hM : own_met l y b ml rt [] rm Z as' h Q) (hf : rm.frames + 1 ≤ R.frames) (hl : W + (ml + 11) + rm.locals ≤ R.locals) (eT : T.heap = h) {a : Addr} (E : Exa Z h a C) (hg : g.method = m) (hsize : g.locals.size = c.maxLocals) (hlen : ∀ sig, parseMethodDescriptor y.desc = some sig → argsL.length = sig.parameters.length) (ha : (Value.ref a :: argsL).toArray = as')
    (hs : g.stack = argsL.reverse ++ .ref a :: rest) (hW : 2 * g.monitorRoom + (rest.map fun v => v.category).sum ≤ W) (hd : decode c.code g.pc = .ok (.invokevirtual index, 3)) (hc : cells + rm.cells ≤ R.cells) (hsl : slots + rm.slots ≤ R.slots) :
    ∃ v T' L, Stand p l e R s m args below meth c T' (locs ++ L) (cells + rm.cells) (slots + rm.slots) ∧ Q v T'.heap L ∧ ∀ target, Steps p.tables e below (T'.setTop { g with pc := g.pc + 3, stack := v.toList ++ rest }) target → Steps p.tables e below (T.setTop g) target := by
  obtain ⟨cq, kq, qa, qb, qc⟩ := isOf hZ eT E
  obtain ⟨v, _, ⟨T', L', k', n'⟩, -, X', ⟨Lc, hQ, l1, y1, z1⟩, st⟩ := X.virtualBack hx (y := y) (z := y) hown (mvT hZ w1) (mvT hZ w5) (notFace_of_selects (args := #[]) (mvT hZ w6)) (mvT hZ w6) (mvT hZ w2) hy (backOf (W := W) hM hZ w4 w3 hf hl) qa qc (g := g) hg hsize (Steps.refl _) (argsL := argsL) (rest := rest) hlen hs hW hd (fun _ _ => ⟨ha, eT, hc, hsl⟩)
  dsimp only [Pt.U, Pt.locs, Pt.cells, Pt.slots] at X' l1 y1 z1 st hQ
  subst l1 y1 z1
  exact ⟨v, T', Lc, X', hQ, fun _ k => st.trans k⟩
theorem own_virtualUp (X : Stand p l e R s m args below meth c T locs cells slots) (hx : p.tables.exec = Jvm.exec) (hZ : Z.Warmed39 s.vm) (hown : s.vm.findClass own = some m.cls) {C owner : String} (w1 : (Jvm.Cond.methodLink own index z).before a0 Z = true) (w7 : (Jvm.Cond.sameMethod z.cls owner z.name z.desc).before a0 Z = true) (w5 : (Jvm.Cond.declares ⟨owner, z.name, z.desc⟩).before a0 Z = true) (w6 : (Jvm.Cond.selects C z y).before a0 Z = true) (w2 : (Jvm.Cond.instanceMethod y).before a0 Z = true) (w3 : (Jvm.Cond.initialized y.cls).before a0 Z = true) (w4 : (Jvm.Cond.code y b ml rt).before a0 Z = true)
    (hy : owner ≠ "java/lang/invoke/MethodHandle" ∧ owner ≠ "java/lang/invoke/VarHandle") (hM : own_met l y b ml rt [] rm Z as' h Q) (hf : rm.frames + 1 ≤ R.frames) (hl : W + (ml + 11) + rm.locals ≤ R.locals) (eT : T.heap = h) {a : Addr} (E : Exa Z h a C) (hg : g.method = m) (hsize : g.locals.size = c.maxLocals) (hlen : ∀ sig, parseMethodDescriptor z.desc = some sig → argsL.length = sig.parameters.length) (ha : (Value.ref a :: argsL).toArray = as')
    (hs : g.stack = argsL.reverse ++ .ref a :: rest) (hW : 2 * g.monitorRoom + (rest.map fun v => v.category).sum ≤ W) (hd : decode c.code g.pc = .ok (.invokevirtual index, 3)) (hc : cells + rm.cells ≤ R.cells) (hsl : slots + rm.slots ≤ R.slots) :
    ∃ v T' L, Stand p l e R s m args below meth c T' (locs ++ L) (cells + rm.cells) (slots + rm.slots) ∧ Q v T'.heap L ∧ ∀ target, Steps p.tables e below (T'.setTop { g with pc := g.pc + 3, stack := v.toList ++ rest }) target → Steps p.tables e below (T.setTop g) target := by
  obtain ⟨cq, kq, qa, qb, qc⟩ := isOf hZ eT E
  obtain ⟨v, _, ⟨T', L', k', n'⟩, -, X', ⟨Lc, hQ, l1, y1, z1⟩, st⟩ := X.virtualBackUp hx (x := z) (y := y) (owner := owner) hown (mvT hZ w1) (mvT hZ w7) (mvT hZ w5) hy (mvT hZ w6) (mvT hZ w2) (backOf (W := W) hM hZ w4 w3 hf hl) qa qc (g := g) hg hsize (Steps.refl _) (argsL := argsL) (rest := rest) hlen hs hW hd (fun _ _ => ⟨ha, eT, hc, hsl⟩)
  dsimp only [Pt.U, Pt.locs, Pt.cells, Pt.slots] at X' l1 y1 z1 st hQ
  subst l1 y1 z1
  exact ⟨v, T', Lc, X', hQ, fun _ k => st.trans k⟩
end OwnCalls

theorem own_split (p1 : Int32) : (p1 &&& (1 : Int32)) = (0 : Int32) ∨ (p1 &&& (1 : Int32)) = (1 : Int32) := by
  have h := c_mask p1 (1 : Int32) 1 (by decide) (by decide)
  have hk : ((2 ^ 1 : Nat) : Int) = 2 := by decide
  rw [hk] at h
  have q : ((p1 &&& (1 : Int32))).toInt = 0 ∨ ((p1 &&& (1 : Int32))).toInt = 1 := by omega
  rcases q with q | q
  · exact Or.inl (Int32.toInt_inj.mp (q.trans (by decide)))
  · exact Or.inr ((Int32.toInt_inj.mp (q.trans (by decide))))
theorem pn_0 : plainName "com/example/garden_rows/gardenrows/rules/KeyType" = true := by first | (simp [plainName, overriddenIn]; done) | decide +kernel
theorem pn_1 : plainName "com/example/garden_rows/gardenrows/rules/KeyTypeLargestHashPinLaw" = true := by first | (simp [plainName, overriddenIn]; done) | decide +kernel
theorem pd_0 : parseMethodDescriptor "()J" = some ⟨[], some .long⟩ := by decide +kernel
abbrev y_0 : MethodName := ⟨"com/example/garden_rows/gardenrows/rules/KeyType", "largestHash", "()J"⟩
abbrev y_1 : MethodName := ⟨"com/example/garden_rows/gardenrows/rules/KeyType", "highestHash", "()J"⟩
theorem d_prog_85_method_6_0 : decode prog_85_method_6_code 0 = .ok (.aload_n 0, 1) := by decide +kernel
theorem d_prog_85_method_6_1 : decode prog_85_method_6_code 1 = .ok (.getfield 33, 3) := by decide +kernel
theorem d_prog_85_method_6_4 : decode prog_85_method_6_code 4 = .ok (.ldc2_w 62, 3) := by decide +kernel
theorem d_prog_85_method_6_7 : decode prog_85_method_6_code 7 = .ok (.lcmp, 1) := by decide +kernel
theorem d_prog_85_method_6_8 : decode prog_85_method_6_code 8 = .ok (.ifCond .ne 9, 3) := by decide +kernel
theorem d_prog_85_method_6_17 : decode prog_85_method_6_code 17 = .ok (.aload_n 0, 1) := by decide +kernel
theorem d_prog_85_method_6_18 : decode prog_85_method_6_code 18 = .ok (.getfield 33, 3) := by decide +kernel
theorem d_prog_85_method_6_21 : decode prog_85_method_6_code 21 = .ok (.lneg, 1) := by decide +kernel
theorem d_prog_85_method_6_22 : decode prog_85_method_6_code 22 = .ok (.lreturn, 1) := by decide +kernel
theorem d_prog_85_method_8_0 : decode prog_85_method_8_code 0 = .ok (.aload_n 0, 1) := by decide +kernel
theorem d_prog_85_method_8_1 : decode prog_85_method_8_code 1 = .ok (.getfield 37, 3) := by decide +kernel
theorem d_prog_85_method_8_4 : decode prog_85_method_8_code 4 = .ok (.lreturn, 1) := by decide +kernel
theorem d_prog_85_method_6_11 : decode prog_85_method_6_code 11 = .ok (.ldc2_w 64, 3) := by decide +kernel
theorem d_prog_85_method_6_14 : decode prog_85_method_6_code 14 = .ok (.goto 8, 3) := by decide +kernel
theorem ef_prog_85_method_6_R (m : MethodId) (x0 : Addr) : entryFrame m #[(.ref x0)] 1 = mkF m 0 #[.val (.ref x0)] [] := by first | (simp [entryFrame, mkF, argsToLocals, Value.category]; done) | rfl
theorem ef_prog_85_method_8_R (m : MethodId) (x0 : Addr) : entryFrame m #[(.ref x0)] 1 = mkF m 0 #[.val (.ref x0)] [] := by first | (simp [entryFrame, mkF, argsToLocals, Value.category]; done) | rfl
theorem ef_code_I (m : MethodId) (x0 : Int32) : entryFrame m #[(.int x0)] maxLocals = mkF m 0 #[.val (.int x0), .unset, .unset, .unset, .unset, .unset, .unset] [] := by first | (simp [entryFrame, mkF, argsToLocals, Value.category, maxLocals]; done) | rfl
def Qrm2 (Z : State) (w_STRING : Addr) (h0 : Heap) (v : Option Value) (h : Heap) (L : List Loc) : Prop := v = some (.long (2147483648 : Int64)) ∧ Fr Z.heap.size L ∧ h = h0
set_option maxRecDepth 65536 in
set_option maxHeartbeats 40000000 in
theorem rm2 (l : Launch) (Z : State) (a0 : Array Value) (hw : ∀ d ∈ tables_1, d.before a0 Z = true) (ws : List Jvm.Cond) (w_STRING : Addr) (h0 : Heap) (Z0 : Ext Z.heap h0) (F_w_STRING_lowestHash : Fld Z Z.heap w_STRING "com/example/garden_rows/gardenrows/rules/KeyType" "lowestHash" "J" (.long (-2147483648 : Int64))) :
    own_met l y_0 prog_85_method_6_code 1 (some .long) ws ({ frames := 0, cells := 0, slots := 0, locals := 0 } : Room) Z #[(.ref w_STRING)] h0 (Qrm2 Z w_STRING h0) := by
  refine own_start (plainFor_of_name pn_0) (fun m => ef_prog_85_method_6_R m w_STRING) ?_
  intro p e s m below meth c s₁ hx hby hml hown hnm X0 hZ e0 hret hlk
  have N0 := Fr.nil Z.heap.size
  obtain ⟨T3, X3, e3, st3⟩ := getF X0 hx hZ hown (host := "") (Or.inl (own_w hw 9 rfl)) Via.refl e0 (F_w_STRING_lowestHash.ext Z0) (g := (mkF m 1 #[.val (.ref w_STRING)] [(.ref w_STRING)])) rfl rfl (hb hby d_prog_85_method_6_1)
  obtain ⟨T4, X4, e4, st4⟩ := getF X3 hx hZ hown (host := "") (Or.inl (own_w hw 9 rfl)) Via.refl e3 (F_w_STRING_lowestHash.ext Z0) (g := (mkF m 18 #[.val (.ref w_STRING)] [(.ref w_STRING)])) rfl rfl (hb hby d_prog_85_method_6_18)
  obtain ⟨fs, hr, hrun, hended, hW, hsame⟩ := X4.leave (v := some (.long (2147483648 : Int64))) (fun h => by rw [hret] at h; cases h) hlk
  refine ⟨_, _, ?_, hrun, hended, _, _, rfl, ?_, ⟨_, rfl⟩, hW, hsame.mono (by decide) (by decide)⟩
  · show own_S p e below s₁ (mkF m 0 #[.val (.ref w_STRING)] []) _
    refine XS.aloadN X0.here hx rfl (hb hby d_prog_85_method_6_0) rfl rfl ?_
    show own_S p e below s₁ (mkF m 1 #[.val (.ref w_STRING)] [(.ref w_STRING)]) _
    refine st3 _ ?_
    show own_S p e below T3 (mkF m 4 #[.val (.ref w_STRING)] [(.long (-2147483648 : Int64))]) _
    refine X3.ldc2Long hx hown (mvT hZ (own_w hw 11 rfl)) (g := (mkF m 4 #[.val (.ref w_STRING)] [(.long (-2147483648 : Int64))])) rfl (hb hby d_prog_85_method_6_4) _ ?_
    show own_S p e below T3 (mkF m 7 #[.val (.ref w_STRING)] [(.long (-9223372036854775808 : Int64)), (.long (-2147483648 : Int64))]) _
    refine XS.lcmp X3.here hx rfl (hb hby d_prog_85_method_6_7) rfl ?_
    show own_S p e below T3 (mkF m 8 #[.val (.ref w_STRING)] [(.int (lcmpW (-2147483648 : Int64) (-9223372036854775808 : Int64)))]) _
    rw [(by decide : (lcmpW (-2147483648 : Int64) (-9223372036854775808 : Int64)) = (1 : Int32))]
    show own_S p e below T3 (mkF m 8 #[.val (.ref w_STRING)] [(.int (1 : Int32))]) _
    refine XS.ifYes X3.here hx rfl (pc0 := 8) (pc' := 17) rfl (hb hby d_prog_85_method_6_8) rfl ((if0 _ _).trans (feq (by decide : ¬ ((1 : Int32) = (0 : Int32)))).2) (by decide) (by decide) ?_
    show own_S p e below T3 (mkF m 17 #[.val (.ref w_STRING)] []) _
    refine XS.aloadN X3.here hx rfl (hb hby d_prog_85_method_6_17) rfl rfl ?_
    show own_S p e below T3 (mkF m 18 #[.val (.ref w_STRING)] [(.ref w_STRING)]) _
    refine st4 _ ?_
    show own_S p e below T4 (mkF m 21 #[.val (.ref w_STRING)] [(.long (-2147483648 : Int64))]) _
    refine XS.lneg X4.here hx rfl (hb hby d_prog_85_method_6_21) rfl ?_
    show own_S p e below T4 (mkF m 22 #[.val (.ref w_STRING)] [(.long (-(-2147483648 : Int64)))]) _
    rw [(by decide : (-(-2147483648 : Int64)) = (2147483648 : Int64))]
    show own_S p e below T4 (mkF m 22 #[.val (.ref w_STRING)] [(.long (2147483648 : Int64))]) _
    jvm_step X4.here [X4.here.top, hx, (hb hby d_prog_85_method_6_22), X4.method', hret, narrow]
    first | (intro acts; rw [hr _ acts rfl rfl rfl]) | rw [hr _ _ rfl rfl rfl]
    exact Steps.refl _
  · show Qrm2 Z w_STRING h0 _ T4.heap _
    rw [e4]
    exact ⟨rfl, N0, rfl⟩
def Qrm6 (Z : State) (w_STRING : Addr) (h0 : Heap) (v : Option Value) (h : Heap) (L : List Loc) : Prop := v = some (.long (2147483647 : Int64)) ∧ Fr Z.heap.size L ∧ h = h0
set_option maxRecDepth 65536 in
set_option maxHeartbeats 40000000 in
theorem rm6 (l : Launch) (Z : State) (a0 : Array Value) (hw : ∀ d ∈ tables_1, d.before a0 Z = true) (ws : List Jvm.Cond) (w_STRING : Addr) (h0 : Heap) (Z0 : Ext Z.heap h0) (F_w_STRING_highestHash : Fld Z Z.heap w_STRING "com/example/garden_rows/gardenrows/rules/KeyType" "highestHash" "J" (.long (2147483647 : Int64))) :
    own_met l y_1 prog_85_method_8_code 1 (some .long) ws ({ frames := 0, cells := 0, slots := 0, locals := 0 } : Room) Z #[(.ref w_STRING)] h0 (Qrm6 Z w_STRING h0) := by
  refine own_start (plainFor_of_name pn_0) (fun m => ef_prog_85_method_8_R m w_STRING) ?_
  intro p e s m below meth c s₁ hx hby hml hown hnm X0 hZ e0 hret hlk
  have N0 := Fr.nil Z.heap.size
  obtain ⟨T7, X7, e7, st7⟩ := getF X0 hx hZ hown (host := "") (Or.inl (own_w hw 17 rfl)) Via.refl e0 (F_w_STRING_highestHash.ext Z0) (g := (mkF m 1 #[.val (.ref w_STRING)] [(.ref w_STRING)])) rfl rfl (hb hby d_prog_85_method_8_1)
  obtain ⟨fs, hr, hrun, hended, hW, hsame⟩ := X7.leave (v := some (.long (2147483647 : Int64))) (fun h => by rw [hret] at h; cases h) hlk
  refine ⟨_, _, ?_, hrun, hended, _, _, rfl, ?_, ⟨_, rfl⟩, hW, hsame.mono (by decide) (by decide)⟩
  · show own_S p e below s₁ (mkF m 0 #[.val (.ref w_STRING)] []) _
    refine XS.aloadN X0.here hx rfl (hb hby d_prog_85_method_8_0) rfl rfl ?_
    show own_S p e below s₁ (mkF m 1 #[.val (.ref w_STRING)] [(.ref w_STRING)]) _
    refine st7 _ ?_
    show own_S p e below T7 (mkF m 4 #[.val (.ref w_STRING)] [(.long (2147483647 : Int64))]) _
    jvm_step X7.here [X7.here.top, hx, (hb hby d_prog_85_method_8_4), X7.method', hret, narrow]
    first | (intro acts; rw [hr _ acts rfl rfl rfl]) | rw [hr _ _ rfl rfl rfl]
    exact Steps.refl _
  · show Qrm6 Z w_STRING h0 _ T7.heap _
    rw [e7]
    exact ⟨rfl, N0, rfl⟩
def Qrm0_0 (Z : State) (w_STRING : Addr) (p1 : Int32) (h0 : Heap) (v : Option Value) (h : Heap) (L : List Loc) : Prop := v = some (.int 1) ∧ Fr Z.heap.size L
set_option maxRecDepth 65536 in
set_option maxHeartbeats 40000000 in
theorem rm0_0 (l : Launch) (Z : State) (a0 : Array Value) (hw : ∀ d ∈ tables_1, d.before a0 Z = true) (ws : List Jvm.Cond) (w_STRING : Addr) (p1 : Int32) (h0 : Heap) (Z0 : Ext Z.heap h0) (S_w_STRING : Sta Z Z.heap "com/example/garden_rows/gardenrows/rules/KeyType" "STRING" "Lcom/example/garden_rows/gardenrows/rules/KeyType;" (.ref w_STRING)) (E_w_STRING : Exa Z Z.heap w_STRING "com/example/garden_rows/gardenrows/rules/KeyType$2") (F_w_STRING_lowestHash : Fld Z Z.heap w_STRING "com/example/garden_rows/gardenrows/rules/KeyType" "lowestHash" "J" (.long (-2147483648 : Int64))) (F_w_STRING_highestHash : Fld Z Z.heap w_STRING "com/example/garden_rows/gardenrows/rules/KeyType" "highestHash" "J" (.long (2147483647 : Int64))) (hc1 : (p1 &&& (1 : Int32)) = (0 : Int32)) :
    own_met l x code maxLocals ret ws room_1 Z #[(.int p1)] h0 (Qrm0_0 Z w_STRING p1 h0) := by
  refine own_start (plainFor_of_name pn_1) (fun m => ef_code_I m p1) ?_
  intro p e s m below meth c s₁ hx hby hml hown hnm X0 hZ e0 hret hlk
  have N0 := Fr.nil Z.heap.size
  obtain ⟨T1, X1, e1, st1⟩ := getS2 X0 hx hZ hown (host := "") (Or.inl (own_w hw 0 rfl)) Via.refl e0 (S_w_STRING.ext Z0) (g := (mkF m 22 #[.val (.int p1), .val (.int (0 : Int32)), .unset, .unset, .unset, .unset, .unset] [])) rfl (hb hby at_22)
  obtain ⟨_, T5, Lc5, X5, hQ5, st5⟩ := own_virtual (y := y_0) X1 hx hZ hown (own_w hw 4 rfl) (own_w hw 5 rfl) (own_w hw 7 rfl) (own_w hw 6 rfl) (own_w hw 1 rfl) (own_w hw 8 rfl) (by decide) (rm2 l Z a0 hw [] w_STRING h0 Z0 F_w_STRING_lowestHash) (by decide) (by decide) e1 (E_w_STRING.ext Z0) (g := (mkF m 41 #[.val (.int p1), .val (.int (0 : Int32)), .val (.ref w_STRING), .val (.long (2147483648 : Int64)), .second, .unset, .unset] [(.ref w_STRING)])) rfl (by rw [hml]; rfl) (argsL := []) (rest := []) (lenOf pd_0 rfl) rfl rfl (W := 0) (by show 2 * 0 + _ ≤ _; exact Nat.le_of_eq rfl) (hb hby at_41) (by decide) (by decide)
  obtain ⟨rfl, N5q, e5⟩ := hQ5
  have N5 := Fr.app N0 N5q
  obtain ⟨_, T8, Lc8, X8, hQ8, st8⟩ := own_virtual (y := y_1) X5 hx hZ hown (own_w hw 12 rfl) (own_w hw 13 rfl) (own_w hw 15 rfl) (own_w hw 14 rfl) (own_w hw 1 rfl) (own_w hw 16 rfl) (by decide) (rm6 l Z a0 hw [] w_STRING h0 Z0 F_w_STRING_highestHash) (by decide) (by decide) e5 (E_w_STRING.ext Z0) (g := (mkF m 63 #[.val (.int p1), .val (.int (0 : Int32)), .val (.ref w_STRING), .val (.long (2147483648 : Int64)), .second, .val (.long (2147483648 : Int64)), .second] [(.ref w_STRING), (.long (2147483648 : Int64))])) rfl (by rw [hml]; rfl) (argsL := []) (rest := [(.long (2147483648 : Int64))]) (lenOf pd_0 rfl) rfl rfl (W := 2) (by show 2 * 0 + _ ≤ _; exact Nat.le_of_eq rfl) (hb hby at_63) (by decide) (by decide)
  obtain ⟨rfl, N8q, e8⟩ := hQ8
  have N8 := Fr.app N5 N8q
  obtain ⟨fs, hr, hrun, hended, hW, hsame⟩ := X8.leave (v := some (.int (1 : Int32))) (fun h => by rw [hret] at h; cases h) hlk
  refine ⟨_, _, ?_, hrun, hended, _, _, rfl, ?_, ⟨_, rfl⟩, hW, hsame.mono (by decide) (by decide)⟩
  · show own_S p e below s₁ (mkF m 0 #[.val (.int p1), .unset, .unset, .unset, .unset, .unset, .unset] []) _
    refine XS.iloadN X0.here hx rfl (hb hby at_0) rfl ?_
    show own_S p e below s₁ (mkF m 1 #[.val (.int p1), .unset, .unset, .unset, .unset, .unset, .unset] [(.int p1)]) _
    refine XS.iconst X0.here hx rfl (hb hby at_1) ?_
    show own_S p e below s₁ (mkF m 2 #[.val (.int p1), .unset, .unset, .unset, .unset, .unset, .unset] [(.int (1 : Int32)), (.int p1)]) _
    refine XS.iand X0.here hx rfl (hb hby at_2) rfl ?_
    show own_S p e below s₁ (mkF m 3 #[.val (.int p1), .unset, .unset, .unset, .unset, .unset, .unset] [(.int (p1 &&& (1 : Int32)))]) _
    rw [hc1]
    show own_S p e below s₁ (mkF m 3 #[.val (.int p1), .unset, .unset, .unset, .unset, .unset, .unset] [(.int (0 : Int32))]) _
    refine XS.ifYes X0.here hx rfl (pc0 := 3) (pc' := 10) rfl (hb hby at_3) rfl ((if0 _ _).trans (teq (rfl : (0 : Int32) = (0 : Int32))).1) (by decide) (by decide) ?_
    show own_S p e below s₁ (mkF m 10 #[.val (.int p1), .unset, .unset, .unset, .unset, .unset, .unset] []) _
    refine XS.iconst X0.here hx rfl (hb hby at_10) ?_
    show own_S p e below s₁ (mkF m 11 #[.val (.int p1), .unset, .unset, .unset, .unset, .unset, .unset] [(.int (0 : Int32))]) _
    refine XS.istoreN X0.here hx rfl (hb hby at_11) rfl (l' := #[.val (.int p1), .val (.int (0 : Int32)), .unset, .unset, .unset, .unset, .unset]) rfl ?_
    show own_S p e below s₁ (mkF m 12 #[.val (.int p1), .val (.int (0 : Int32)), .unset, .unset, .unset, .unset, .unset] []) _
    refine XS.iloadN X0.here hx rfl (hb hby at_12) rfl ?_
    show own_S p e below s₁ (mkF m 13 #[.val (.int p1), .val (.int (0 : Int32)), .unset, .unset, .unset, .unset, .unset] [(.int (0 : Int32))]) _
    refine XS.ifYes X0.here hx rfl (pc0 := 13) (pc' := 22) rfl (hb hby at_13) rfl ((if0 _ _).trans (teq (rfl : (0 : Int32) = (0 : Int32))).1) (by decide) (by decide) ?_
    show own_S p e below s₁ (mkF m 22 #[.val (.int p1), .val (.int (0 : Int32)), .unset, .unset, .unset, .unset, .unset] []) _
    refine st1 _ ?_
    show own_S p e below T1 (mkF m 25 #[.val (.int p1), .val (.int (0 : Int32)), .unset, .unset, .unset, .unset, .unset] [(.ref w_STRING)]) _
    refine XS.astoreN X1.here hx rfl (hb hby at_25) rfl rfl (l' := #[.val (.int p1), .val (.int (0 : Int32)), .val (.ref w_STRING), .unset, .unset, .unset, .unset]) rfl ?_
    show own_S p e below T1 (mkF m 26 #[.val (.int p1), .val (.int (0 : Int32)), .val (.ref w_STRING), .unset, .unset, .unset, .unset] []) _
    refine XS.iloadN X1.here hx rfl (hb hby at_26) rfl ?_
    show own_S p e below T1 (mkF m 27 #[.val (.int p1), .val (.int (0 : Int32)), .val (.ref w_STRING), .unset, .unset, .unset, .unset] [(.int (0 : Int32))]) _
    refine XS.ifYes X1.here hx rfl (pc0 := 27) (pc' := 36) rfl (hb hby at_27) rfl ((if0 _ _).trans (teq (rfl : (0 : Int32) = (0 : Int32))).1) (by decide) (by decide) ?_
    show own_S p e below T1 (mkF m 36 #[.val (.int p1), .val (.int (0 : Int32)), .val (.ref w_STRING), .unset, .unset, .unset, .unset] []) _
    refine X1.ldc2Long hx hown (mvT hZ (own_w hw 3 rfl)) (g := (mkF m 36 #[.val (.int p1), .val (.int (0 : Int32)), .val (.ref w_STRING), .unset, .unset, .unset, .unset] [])) rfl (hb hby at_36) _ ?_
    show own_S p e below T1 (mkF m 39 #[.val (.int p1), .val (.int (0 : Int32)), .val (.ref w_STRING), .unset, .unset, .unset, .unset] [(.long (2147483648 : Int64))]) _
    refine XS.lstoreN X1.here hx rfl (hb hby at_39) rfl (l' := #[.val (.int p1), .val (.int (0 : Int32)), .val (.ref w_STRING), .val (.long (2147483648 : Int64)), .second, .unset, .unset]) rfl ?_
    show own_S p e below T1 (mkF m 40 #[.val (.int p1), .val (.int (0 : Int32)), .val (.ref w_STRING), .val (.long (2147483648 : Int64)), .second, .unset, .unset] []) _
    refine XS.aloadN X1.here hx rfl (hb hby at_40) rfl rfl ?_
    show own_S p e below T1 (mkF m 41 #[.val (.int p1), .val (.int (0 : Int32)), .val (.ref w_STRING), .val (.long (2147483648 : Int64)), .second, .unset, .unset] [(.ref w_STRING)]) _
    refine st5 _ ?_
    show own_S p e below T5 (mkF m 44 #[.val (.int p1), .val (.int (0 : Int32)), .val (.ref w_STRING), .val (.long (2147483648 : Int64)), .second, .unset, .unset] [(.long (2147483648 : Int64))]) _
    refine XS.lstore X5.here hx rfl (hb hby at_44) rfl (l' := #[.val (.int p1), .val (.int (0 : Int32)), .val (.ref w_STRING), .val (.long (2147483648 : Int64)), .second, .val (.long (2147483648 : Int64)), .second]) rfl ?_
    show own_S p e below T5 (mkF m 46 #[.val (.int p1), .val (.int (0 : Int32)), .val (.ref w_STRING), .val (.long (2147483648 : Int64)), .second, .val (.long (2147483648 : Int64)), .second] []) _
    refine XS.lload X5.here hx rfl (hb hby at_46) rfl ?_
    show own_S p e below T5 (mkF m 48 #[.val (.int p1), .val (.int (0 : Int32)), .val (.ref w_STRING), .val (.long (2147483648 : Int64)), .second, .val (.long (2147483648 : Int64)), .second] [(.long (2147483648 : Int64))]) _
    refine XS.lloadN X5.here hx rfl (hb hby at_48) rfl ?_
    show own_S p e below T5 (mkF m 49 #[.val (.int p1), .val (.int (0 : Int32)), .val (.ref w_STRING), .val (.long (2147483648 : Int64)), .second, .val (.long (2147483648 : Int64)), .second] [(.long (2147483648 : Int64)), (.long (2147483648 : Int64))]) _
    refine XS.lcmp X5.here hx rfl (hb hby at_49) rfl ?_
    show own_S p e below T5 (mkF m 50 #[.val (.int p1), .val (.int (0 : Int32)), .val (.ref w_STRING), .val (.long (2147483648 : Int64)), .second, .val (.long (2147483648 : Int64)), .second] [(.int (lcmpW (2147483648 : Int64) (2147483648 : Int64)))]) _
    rw [(by decide : (lcmpW (2147483648 : Int64) (2147483648 : Int64)) = (0 : Int32))]
    show own_S p e below T5 (mkF m 50 #[.val (.int p1), .val (.int (0 : Int32)), .val (.ref w_STRING), .val (.long (2147483648 : Int64)), .second, .val (.long (2147483648 : Int64)), .second] [(.int (0 : Int32))]) _
    refine XS.ifNo X5.here hx rfl (hb hby at_50) rfl ((if0 _ _).trans (teq (rfl : (0 : Int32) = (0 : Int32))).2) ?_
    show own_S p e below T5 (mkF m 53 #[.val (.int p1), .val (.int (0 : Int32)), .val (.ref w_STRING), .val (.long (2147483648 : Int64)), .second, .val (.long (2147483648 : Int64)), .second] []) _
    refine XS.lload X5.here hx rfl (hb hby at_53) rfl ?_
    show own_S p e below T5 (mkF m 55 #[.val (.int p1), .val (.int (0 : Int32)), .val (.ref w_STRING), .val (.long (2147483648 : Int64)), .second, .val (.long (2147483648 : Int64)), .second] [(.long (2147483648 : Int64))]) _
    refine XS.lconst X5.here hx rfl (hb hby at_55) ?_
    show own_S p e below T5 (mkF m 56 #[.val (.int p1), .val (.int (0 : Int32)), .val (.ref w_STRING), .val (.long (2147483648 : Int64)), .second, .val (.long (2147483648 : Int64)), .second] [(.long (0 : Int64)), (.long (2147483648 : Int64))]) _
    refine XS.lcmp X5.here hx rfl (hb hby at_56) rfl ?_
    show own_S p e below T5 (mkF m 57 #[.val (.int p1), .val (.int (0 : Int32)), .val (.ref w_STRING), .val (.long (2147483648 : Int64)), .second, .val (.long (2147483648 : Int64)), .second] [(.int (lcmpW (2147483648 : Int64) (0 : Int64)))]) _
    rw [(by decide : (lcmpW (2147483648 : Int64) (0 : Int64)) = (1 : Int32))]
    show own_S p e below T5 (mkF m 57 #[.val (.int p1), .val (.int (0 : Int32)), .val (.ref w_STRING), .val (.long (2147483648 : Int64)), .second, .val (.long (2147483648 : Int64)), .second] [(.int (1 : Int32))]) _
    refine XS.ifNo X5.here hx rfl (hb hby at_57) rfl ((if0 _ _).trans (tlt (by decide : (0 : Int32) < (1 : Int32))).2.2.2) ?_
    show own_S p e below T5 (mkF m 60 #[.val (.int p1), .val (.int (0 : Int32)), .val (.ref w_STRING), .val (.long (2147483648 : Int64)), .second, .val (.long (2147483648 : Int64)), .second] []) _
    refine XS.lload X5.here hx rfl (hb hby at_60) rfl ?_
    show own_S p e below T5 (mkF m 62 #[.val (.int p1), .val (.int (0 : Int32)), .val (.ref w_STRING), .val (.long (2147483648 : Int64)), .second, .val (.long (2147483648 : Int64)), .second] [(.long (2147483648 : Int64))]) _
    refine XS.aloadN X5.here hx rfl (hb hby at_62) rfl rfl ?_
    show own_S p e below T5 (mkF m 63 #[.val (.int p1), .val (.int (0 : Int32)), .val (.ref w_STRING), .val (.long (2147483648 : Int64)), .second, .val (.long (2147483648 : Int64)), .second] [(.ref w_STRING), (.long (2147483648 : Int64))]) _
    refine st8 _ ?_
    show own_S p e below T8 (mkF m 66 #[.val (.int p1), .val (.int (0 : Int32)), .val (.ref w_STRING), .val (.long (2147483648 : Int64)), .second, .val (.long (2147483648 : Int64)), .second] [(.long (2147483647 : Int64)), (.long (2147483648 : Int64))]) _
    refine XS.lcmp X8.here hx rfl (hb hby at_66) rfl ?_
    show own_S p e below T8 (mkF m 67 #[.val (.int p1), .val (.int (0 : Int32)), .val (.ref w_STRING), .val (.long (2147483648 : Int64)), .second, .val (.long (2147483648 : Int64)), .second] [(.int (lcmpW (2147483648 : Int64) (2147483647 : Int64)))]) _
    rw [(by decide : (lcmpW (2147483648 : Int64) (2147483647 : Int64)) = (1 : Int32))]
    show own_S p e below T8 (mkF m 67 #[.val (.int p1), .val (.int (0 : Int32)), .val (.ref w_STRING), .val (.long (2147483648 : Int64)), .second, .val (.long (2147483648 : Int64)), .second] [(.int (1 : Int32))]) _
    refine XS.ifNo X8.here hx rfl (hb hby at_67) rfl ((if0 _ _).trans (flt (by decide : ¬ ((1 : Int32) < (0 : Int32)))).1) ?_
    show own_S p e below T8 (mkF m 70 #[.val (.int p1), .val (.int (0 : Int32)), .val (.ref w_STRING), .val (.long (2147483648 : Int64)), .second, .val (.long (2147483648 : Int64)), .second] []) _
    refine XS.iconst X8.here hx rfl (hb hby at_70) ?_
    show own_S p e below T8 (mkF m 71 #[.val (.int p1), .val (.int (0 : Int32)), .val (.ref w_STRING), .val (.long (2147483648 : Int64)), .second, .val (.long (2147483648 : Int64)), .second] [(.int (1 : Int32))]) _
    refine XS.goto X8.here hx rfl (pc0 := 71) (pc' := 75) rfl (hb hby at_71) (by decide) (by decide) ?_
    show own_S p e below T8 (mkF m 75 #[.val (.int p1), .val (.int (0 : Int32)), .val (.ref w_STRING), .val (.long (2147483648 : Int64)), .second, .val (.long (2147483648 : Int64)), .second] [(.int (1 : Int32))]) _
    exact retN X8 hx (t := .boolean) hret (by simp) (hb hby at_75) hr
  · show Qrm0_0 Z w_STRING p1 h0 _ T8.heap _
    exact ⟨rfl, N8⟩
def Qrm10 (Z : State) (w_INTEGER : Addr) (h0 : Heap) (v : Option Value) (h : Heap) (L : List Loc) : Prop := v = some (.long (9223372036854775807 : Int64)) ∧ Fr Z.heap.size L ∧ h = h0
set_option maxRecDepth 65536 in
set_option maxHeartbeats 40000000 in
theorem rm10 (l : Launch) (Z : State) (a0 : Array Value) (hw : ∀ d ∈ tables_1, d.before a0 Z = true) (ws : List Jvm.Cond) (w_INTEGER : Addr) (h0 : Heap) (Z0 : Ext Z.heap h0) (F_w_INTEGER_lowestHash : Fld Z Z.heap w_INTEGER "com/example/garden_rows/gardenrows/rules/KeyType" "lowestHash" "J" (.long (-9223372036854775808 : Int64))) :
    own_met l y_0 prog_85_method_6_code 1 (some .long) ws ({ frames := 0, cells := 0, slots := 0, locals := 0 } : Room) Z #[(.ref w_INTEGER)] h0 (Qrm10 Z w_INTEGER h0) := by
  refine own_start (plainFor_of_name pn_0) (fun m => ef_prog_85_method_6_R m w_INTEGER) ?_
  intro p e s m below meth c s₁ hx hby hml hown hnm X0 hZ e0 hret hlk
  have N0 := Fr.nil Z.heap.size
  obtain ⟨T11, X11, e11, st11⟩ := getF X0 hx hZ hown (host := "") (Or.inl (own_w hw 9 rfl)) Via.refl e0 (F_w_INTEGER_lowestHash.ext Z0) (g := (mkF m 1 #[.val (.ref w_INTEGER)] [(.ref w_INTEGER)])) rfl rfl (hb hby d_prog_85_method_6_1)
  obtain ⟨fs, hr, hrun, hended, hW, hsame⟩ := X11.leave (v := some (.long (9223372036854775807 : Int64))) (fun h => by rw [hret] at h; cases h) hlk
  refine ⟨_, _, ?_, hrun, hended, _, _, rfl, ?_, ⟨_, rfl⟩, hW, hsame.mono (by decide) (by decide)⟩
  · show own_S p e below s₁ (mkF m 0 #[.val (.ref w_INTEGER)] []) _
    refine XS.aloadN X0.here hx rfl (hb hby d_prog_85_method_6_0) rfl rfl ?_
    show own_S p e below s₁ (mkF m 1 #[.val (.ref w_INTEGER)] [(.ref w_INTEGER)]) _
    refine st11 _ ?_
    show own_S p e below T11 (mkF m 4 #[.val (.ref w_INTEGER)] [(.long (-9223372036854775808 : Int64))]) _
    refine X11.ldc2Long hx hown (mvT hZ (own_w hw 11 rfl)) (g := (mkF m 4 #[.val (.ref w_INTEGER)] [(.long (-9223372036854775808 : Int64))])) rfl (hb hby d_prog_85_method_6_4) _ ?_
    show own_S p e below T11 (mkF m 7 #[.val (.ref w_INTEGER)] [(.long (-9223372036854775808 : Int64)), (.long (-9223372036854775808 : Int64))]) _
    refine XS.lcmp X11.here hx rfl (hb hby d_prog_85_method_6_7) rfl ?_
    show own_S p e below T11 (mkF m 8 #[.val (.ref w_INTEGER)] [(.int (lcmpW (-9223372036854775808 : Int64) (-9223372036854775808 : Int64)))]) _
    rw [(by decide : (lcmpW (-9223372036854775808 : Int64) (-9223372036854775808 : Int64)) = (0 : Int32))]
    show own_S p e below T11 (mkF m 8 #[.val (.ref w_INTEGER)] [(.int (0 : Int32))]) _
    refine XS.ifNo X11.here hx rfl (hb hby d_prog_85_method_6_8) rfl ((if0 _ _).trans (teq (rfl : (0 : Int32) = (0 : Int32))).2) ?_
    show own_S p e below T11 (mkF m 11 #[.val (.ref w_INTEGER)] []) _
    refine X11.ldc2Long hx hown (mvT hZ (own_w hw 24 rfl)) (g := (mkF m 11 #[.val (.ref w_INTEGER)] [])) rfl (hb hby d_prog_85_method_6_11) _ ?_
    show own_S p e below T11 (mkF m 14 #[.val (.ref w_INTEGER)] [(.long (9223372036854775807 : Int64))]) _
    refine XS.goto X11.here hx rfl (pc0 := 14) (pc' := 22) rfl (hb hby d_prog_85_method_6_14) (by decide) (by decide) ?_
    show own_S p e below T11 (mkF m 22 #[.val (.ref w_INTEGER)] [(.long (9223372036854775807 : Int64))]) _
    jvm_step X11.here [X11.here.top, hx, (hb hby d_prog_85_method_6_22), X11.method', hret, narrow]
    first | (intro acts; rw [hr _ acts rfl rfl rfl]) | rw [hr _ _ rfl rfl rfl]
    exact Steps.refl _
  · show Qrm10 Z w_INTEGER h0 _ T11.heap _
    rw [e11]
    exact ⟨rfl, N0, rfl⟩
def Qrm13 (Z : State) (w_INTEGER : Addr) (h0 : Heap) (v : Option Value) (h : Heap) (L : List Loc) : Prop := v = some (.long (9223372036854775807 : Int64)) ∧ Fr Z.heap.size L ∧ h = h0
set_option maxRecDepth 65536 in
set_option maxHeartbeats 40000000 in
theorem rm13 (l : Launch) (Z : State) (a0 : Array Value) (hw : ∀ d ∈ tables_1, d.before a0 Z = true) (ws : List Jvm.Cond) (w_INTEGER : Addr) (h0 : Heap) (Z0 : Ext Z.heap h0) (F_w_INTEGER_highestHash : Fld Z Z.heap w_INTEGER "com/example/garden_rows/gardenrows/rules/KeyType" "highestHash" "J" (.long (9223372036854775807 : Int64))) :
    own_met l y_1 prog_85_method_8_code 1 (some .long) ws ({ frames := 0, cells := 0, slots := 0, locals := 0 } : Room) Z #[(.ref w_INTEGER)] h0 (Qrm13 Z w_INTEGER h0) := by
  refine own_start (plainFor_of_name pn_0) (fun m => ef_prog_85_method_8_R m w_INTEGER) ?_
  intro p e s m below meth c s₁ hx hby hml hown hnm X0 hZ e0 hret hlk
  have N0 := Fr.nil Z.heap.size
  obtain ⟨T14, X14, e14, st14⟩ := getF X0 hx hZ hown (host := "") (Or.inl (own_w hw 17 rfl)) Via.refl e0 (F_w_INTEGER_highestHash.ext Z0) (g := (mkF m 1 #[.val (.ref w_INTEGER)] [(.ref w_INTEGER)])) rfl rfl (hb hby d_prog_85_method_8_1)
  obtain ⟨fs, hr, hrun, hended, hW, hsame⟩ := X14.leave (v := some (.long (9223372036854775807 : Int64))) (fun h => by rw [hret] at h; cases h) hlk
  refine ⟨_, _, ?_, hrun, hended, _, _, rfl, ?_, ⟨_, rfl⟩, hW, hsame.mono (by decide) (by decide)⟩
  · show own_S p e below s₁ (mkF m 0 #[.val (.ref w_INTEGER)] []) _
    refine XS.aloadN X0.here hx rfl (hb hby d_prog_85_method_8_0) rfl rfl ?_
    show own_S p e below s₁ (mkF m 1 #[.val (.ref w_INTEGER)] [(.ref w_INTEGER)]) _
    refine st14 _ ?_
    show own_S p e below T14 (mkF m 4 #[.val (.ref w_INTEGER)] [(.long (9223372036854775807 : Int64))]) _
    jvm_step X14.here [X14.here.top, hx, (hb hby d_prog_85_method_8_4), X14.method', hret, narrow]
    first | (intro acts; rw [hr _ acts rfl rfl rfl]) | rw [hr _ _ rfl rfl rfl]
    exact Steps.refl _
  · show Qrm13 Z w_INTEGER h0 _ T14.heap _
    rw [e14]
    exact ⟨rfl, N0, rfl⟩
def Qrm0_1 (Z : State) (w_INTEGER : Addr) (p1 : Int32) (h0 : Heap) (v : Option Value) (h : Heap) (L : List Loc) : Prop := v = some (.int 1) ∧ Fr Z.heap.size L
set_option maxRecDepth 65536 in
set_option maxHeartbeats 40000000 in
theorem rm0_1 (l : Launch) (Z : State) (a0 : Array Value) (hw : ∀ d ∈ tables_1, d.before a0 Z = true) (ws : List Jvm.Cond) (w_INTEGER : Addr) (p1 : Int32) (h0 : Heap) (Z0 : Ext Z.heap h0) (S_w_INTEGER : Sta Z Z.heap "com/example/garden_rows/gardenrows/rules/KeyType" "INTEGER" "Lcom/example/garden_rows/gardenrows/rules/KeyType;" (.ref w_INTEGER)) (E_w_INTEGER : Exa Z Z.heap w_INTEGER "com/example/garden_rows/gardenrows/rules/KeyType$1") (F_w_INTEGER_lowestHash : Fld Z Z.heap w_INTEGER "com/example/garden_rows/gardenrows/rules/KeyType" "lowestHash" "J" (.long (-9223372036854775808 : Int64))) (F_w_INTEGER_highestHash : Fld Z Z.heap w_INTEGER "com/example/garden_rows/gardenrows/rules/KeyType" "highestHash" "J" (.long (9223372036854775807 : Int64))) (hc2 : (p1 &&& (1 : Int32)) = (1 : Int32)) :
    own_met l x code maxLocals ret ws room_1 Z #[(.int p1)] h0 (Qrm0_1 Z w_INTEGER p1 h0) := by
  refine own_start (plainFor_of_name pn_1) (fun m => ef_code_I m p1) ?_
  intro p e s m below meth c s₁ hx hby hml hown hnm X0 hZ e0 hret hlk
  have N0 := Fr.nil Z.heap.size
  obtain ⟨T9, X9, e9, st9⟩ := getS2 X0 hx hZ hown (host := "") (Or.inl (own_w hw 19 rfl)) Via.refl e0 (S_w_INTEGER.ext Z0) (g := (mkF m 16 #[.val (.int p1), .val (.int (1 : Int32)), .unset, .unset, .unset, .unset, .unset] [])) rfl (hb hby at_16)
  obtain ⟨_, T12, Lc12, X12, hQ12, st12⟩ := own_virtual (y := y_0) X9 hx hZ hown (own_w hw 4 rfl) (own_w hw 5 rfl) (own_w hw 22 rfl) (own_w hw 6 rfl) (own_w hw 1 rfl) (own_w hw 8 rfl) (by decide) (rm10 l Z a0 hw [] w_INTEGER h0 Z0 F_w_INTEGER_lowestHash) (by decide) (by decide) e9 (E_w_INTEGER.ext Z0) (g := (mkF m 41 #[.val (.int p1), .val (.int (1 : Int32)), .val (.ref w_INTEGER), .val (.long (9223372036854775807 : Int64)), .second, .unset, .unset] [(.ref w_INTEGER)])) rfl (by rw [hml]; rfl) (argsL := []) (rest := []) (lenOf pd_0 rfl) rfl rfl (W := 0) (by show 2 * 0 + _ ≤ _; exact Nat.le_of_eq rfl) (hb hby at_41) (by decide) (by decide)
  obtain ⟨rfl, N12q, e12⟩ := hQ12
  have N12 := Fr.app N0 N12q
  obtain ⟨_, T15, Lc15, X15, hQ15, st15⟩ := own_virtual (y := y_1) X12 hx hZ hown (own_w hw 12 rfl) (own_w hw 13 rfl) (own_w hw 25 rfl) (own_w hw 14 rfl) (own_w hw 1 rfl) (own_w hw 16 rfl) (by decide) (rm13 l Z a0 hw [] w_INTEGER h0 Z0 F_w_INTEGER_highestHash) (by decide) (by decide) e12 (E_w_INTEGER.ext Z0) (g := (mkF m 63 #[.val (.int p1), .val (.int (1 : Int32)), .val (.ref w_INTEGER), .val (.long (9223372036854775807 : Int64)), .second, .val (.long (9223372036854775807 : Int64)), .second] [(.ref w_INTEGER), (.long (9223372036854775807 : Int64))])) rfl (by rw [hml]; rfl) (argsL := []) (rest := [(.long (9223372036854775807 : Int64))]) (lenOf pd_0 rfl) rfl rfl (W := 2) (by show 2 * 0 + _ ≤ _; exact Nat.le_of_eq rfl) (hb hby at_63) (by decide) (by decide)
  obtain ⟨rfl, N15q, e15⟩ := hQ15
  have N15 := Fr.app N12 N15q
  obtain ⟨fs, hr, hrun, hended, hW, hsame⟩ := X15.leave (v := some (.int (1 : Int32))) (fun h => by rw [hret] at h; cases h) hlk
  refine ⟨_, _, ?_, hrun, hended, _, _, rfl, ?_, ⟨_, rfl⟩, hW, hsame.mono (by decide) (by decide)⟩
  · show own_S p e below s₁ (mkF m 0 #[.val (.int p1), .unset, .unset, .unset, .unset, .unset, .unset] []) _
    refine XS.iloadN X0.here hx rfl (hb hby at_0) rfl ?_
    show own_S p e below s₁ (mkF m 1 #[.val (.int p1), .unset, .unset, .unset, .unset, .unset, .unset] [(.int p1)]) _
    refine XS.iconst X0.here hx rfl (hb hby at_1) ?_
    show own_S p e below s₁ (mkF m 2 #[.val (.int p1), .unset, .unset, .unset, .unset, .unset, .unset] [(.int (1 : Int32)), (.int p1)]) _
    refine XS.iand X0.here hx rfl (hb hby at_2) rfl ?_
    show own_S p e below s₁ (mkF m 3 #[.val (.int p1), .unset, .unset, .unset, .unset, .unset, .unset] [(.int (p1 &&& (1 : Int32)))]) _
    rw [hc2]
    show own_S p e below s₁ (mkF m 3 #[.val (.int p1), .unset, .unset, .unset, .unset, .unset, .unset] [(.int (1 : Int32))]) _
    refine XS.ifNo X0.here hx rfl (hb hby at_3) rfl ((if0 _ _).trans (feq (by decide : ¬ ((1 : Int32) = (0 : Int32)))).1) ?_
    show own_S p e below s₁ (mkF m 6 #[.val (.int p1), .unset, .unset, .unset, .unset, .unset, .unset] []) _
    refine XS.iconst X0.here hx rfl (hb hby at_6) ?_
    show own_S p e below s₁ (mkF m 7 #[.val (.int p1), .unset, .unset, .unset, .unset, .unset, .unset] [(.int (1 : Int32))]) _
    refine XS.goto X0.here hx rfl (pc0 := 7) (pc' := 11) rfl (hb hby at_7) (by decide) (by decide) ?_
    show own_S p e below s₁ (mkF m 11 #[.val (.int p1), .unset, .unset, .unset, .unset, .unset, .unset] [(.int (1 : Int32))]) _
    refine XS.istoreN X0.here hx rfl (hb hby at_11) rfl (l' := #[.val (.int p1), .val (.int (1 : Int32)), .unset, .unset, .unset, .unset, .unset]) rfl ?_
    show own_S p e below s₁ (mkF m 12 #[.val (.int p1), .val (.int (1 : Int32)), .unset, .unset, .unset, .unset, .unset] []) _
    refine XS.iloadN X0.here hx rfl (hb hby at_12) rfl ?_
    show own_S p e below s₁ (mkF m 13 #[.val (.int p1), .val (.int (1 : Int32)), .unset, .unset, .unset, .unset, .unset] [(.int (1 : Int32))]) _
    refine XS.ifNo X0.here hx rfl (hb hby at_13) rfl ((if0 _ _).trans (feq (by decide : ¬ ((1 : Int32) = (0 : Int32)))).1) ?_
    show own_S p e below s₁ (mkF m 16 #[.val (.int p1), .val (.int (1 : Int32)), .unset, .unset, .unset, .unset, .unset] []) _
    refine st9 _ ?_
    show own_S p e below T9 (mkF m 19 #[.val (.int p1), .val (.int (1 : Int32)), .unset, .unset, .unset, .unset, .unset] [(.ref w_INTEGER)]) _
    refine XS.goto X9.here hx rfl (pc0 := 19) (pc' := 25) rfl (hb hby at_19) (by decide) (by decide) ?_
    show own_S p e below T9 (mkF m 25 #[.val (.int p1), .val (.int (1 : Int32)), .unset, .unset, .unset, .unset, .unset] [(.ref w_INTEGER)]) _
    refine XS.astoreN X9.here hx rfl (hb hby at_25) rfl rfl (l' := #[.val (.int p1), .val (.int (1 : Int32)), .val (.ref w_INTEGER), .unset, .unset, .unset, .unset]) rfl ?_
    show own_S p e below T9 (mkF m 26 #[.val (.int p1), .val (.int (1 : Int32)), .val (.ref w_INTEGER), .unset, .unset, .unset, .unset] []) _
    refine XS.iloadN X9.here hx rfl (hb hby at_26) rfl ?_
    show own_S p e below T9 (mkF m 27 #[.val (.int p1), .val (.int (1 : Int32)), .val (.ref w_INTEGER), .unset, .unset, .unset, .unset] [(.int (1 : Int32))]) _
    refine XS.ifNo X9.here hx rfl (hb hby at_27) rfl ((if0 _ _).trans (feq (by decide : ¬ ((1 : Int32) = (0 : Int32)))).1) ?_
    show own_S p e below T9 (mkF m 30 #[.val (.int p1), .val (.int (1 : Int32)), .val (.ref w_INTEGER), .unset, .unset, .unset, .unset] []) _
    refine X9.ldc2Long hx hown (mvT hZ (own_w hw 21 rfl)) (g := (mkF m 30 #[.val (.int p1), .val (.int (1 : Int32)), .val (.ref w_INTEGER), .unset, .unset, .unset, .unset] [])) rfl (hb hby at_30) _ ?_
    show own_S p e below T9 (mkF m 33 #[.val (.int p1), .val (.int (1 : Int32)), .val (.ref w_INTEGER), .unset, .unset, .unset, .unset] [(.long (9223372036854775807 : Int64))]) _
    refine XS.goto X9.here hx rfl (pc0 := 33) (pc' := 39) rfl (hb hby at_33) (by decide) (by decide) ?_
    show own_S p e below T9 (mkF m 39 #[.val (.int p1), .val (.int (1 : Int32)), .val (.ref w_INTEGER), .unset, .unset, .unset, .unset] [(.long (9223372036854775807 : Int64))]) _
    refine XS.lstoreN X9.here hx rfl (hb hby at_39) rfl (l' := #[.val (.int p1), .val (.int (1 : Int32)), .val (.ref w_INTEGER), .val (.long (9223372036854775807 : Int64)), .second, .unset, .unset]) rfl ?_
    show own_S p e below T9 (mkF m 40 #[.val (.int p1), .val (.int (1 : Int32)), .val (.ref w_INTEGER), .val (.long (9223372036854775807 : Int64)), .second, .unset, .unset] []) _
    refine XS.aloadN X9.here hx rfl (hb hby at_40) rfl rfl ?_
    show own_S p e below T9 (mkF m 41 #[.val (.int p1), .val (.int (1 : Int32)), .val (.ref w_INTEGER), .val (.long (9223372036854775807 : Int64)), .second, .unset, .unset] [(.ref w_INTEGER)]) _
    refine st12 _ ?_
    show own_S p e below T12 (mkF m 44 #[.val (.int p1), .val (.int (1 : Int32)), .val (.ref w_INTEGER), .val (.long (9223372036854775807 : Int64)), .second, .unset, .unset] [(.long (9223372036854775807 : Int64))]) _
    refine XS.lstore X12.here hx rfl (hb hby at_44) rfl (l' := #[.val (.int p1), .val (.int (1 : Int32)), .val (.ref w_INTEGER), .val (.long (9223372036854775807 : Int64)), .second, .val (.long (9223372036854775807 : Int64)), .second]) rfl ?_
    show own_S p e below T12 (mkF m 46 #[.val (.int p1), .val (.int (1 : Int32)), .val (.ref w_INTEGER), .val (.long (9223372036854775807 : Int64)), .second, .val (.long (9223372036854775807 : Int64)), .second] []) _
    refine XS.lload X12.here hx rfl (hb hby at_46) rfl ?_
    show own_S p e below T12 (mkF m 48 #[.val (.int p1), .val (.int (1 : Int32)), .val (.ref w_INTEGER), .val (.long (9223372036854775807 : Int64)), .second, .val (.long (9223372036854775807 : Int64)), .second] [(.long (9223372036854775807 : Int64))]) _
    refine XS.lloadN X12.here hx rfl (hb hby at_48) rfl ?_
    show own_S p e below T12 (mkF m 49 #[.val (.int p1), .val (.int (1 : Int32)), .val (.ref w_INTEGER), .val (.long (9223372036854775807 : Int64)), .second, .val (.long (9223372036854775807 : Int64)), .second] [(.long (9223372036854775807 : Int64)), (.long (9223372036854775807 : Int64))]) _
    refine XS.lcmp X12.here hx rfl (hb hby at_49) rfl ?_
    show own_S p e below T12 (mkF m 50 #[.val (.int p1), .val (.int (1 : Int32)), .val (.ref w_INTEGER), .val (.long (9223372036854775807 : Int64)), .second, .val (.long (9223372036854775807 : Int64)), .second] [(.int (lcmpW (9223372036854775807 : Int64) (9223372036854775807 : Int64)))]) _
    rw [(by decide : (lcmpW (9223372036854775807 : Int64) (9223372036854775807 : Int64)) = (0 : Int32))]
    show own_S p e below T12 (mkF m 50 #[.val (.int p1), .val (.int (1 : Int32)), .val (.ref w_INTEGER), .val (.long (9223372036854775807 : Int64)), .second, .val (.long (9223372036854775807 : Int64)), .second] [(.int (0 : Int32))]) _
    refine XS.ifNo X12.here hx rfl (hb hby at_50) rfl ((if0 _ _).trans (teq (rfl : (0 : Int32) = (0 : Int32))).2) ?_
    show own_S p e below T12 (mkF m 53 #[.val (.int p1), .val (.int (1 : Int32)), .val (.ref w_INTEGER), .val (.long (9223372036854775807 : Int64)), .second, .val (.long (9223372036854775807 : Int64)), .second] []) _
    refine XS.lload X12.here hx rfl (hb hby at_53) rfl ?_
    show own_S p e below T12 (mkF m 55 #[.val (.int p1), .val (.int (1 : Int32)), .val (.ref w_INTEGER), .val (.long (9223372036854775807 : Int64)), .second, .val (.long (9223372036854775807 : Int64)), .second] [(.long (9223372036854775807 : Int64))]) _
    refine XS.lconst X12.here hx rfl (hb hby at_55) ?_
    show own_S p e below T12 (mkF m 56 #[.val (.int p1), .val (.int (1 : Int32)), .val (.ref w_INTEGER), .val (.long (9223372036854775807 : Int64)), .second, .val (.long (9223372036854775807 : Int64)), .second] [(.long (0 : Int64)), (.long (9223372036854775807 : Int64))]) _
    refine XS.lcmp X12.here hx rfl (hb hby at_56) rfl ?_
    show own_S p e below T12 (mkF m 57 #[.val (.int p1), .val (.int (1 : Int32)), .val (.ref w_INTEGER), .val (.long (9223372036854775807 : Int64)), .second, .val (.long (9223372036854775807 : Int64)), .second] [(.int (lcmpW (9223372036854775807 : Int64) (0 : Int64)))]) _
    rw [(by decide : (lcmpW (9223372036854775807 : Int64) (0 : Int64)) = (1 : Int32))]
    show own_S p e below T12 (mkF m 57 #[.val (.int p1), .val (.int (1 : Int32)), .val (.ref w_INTEGER), .val (.long (9223372036854775807 : Int64)), .second, .val (.long (9223372036854775807 : Int64)), .second] [(.int (1 : Int32))]) _
    refine XS.ifNo X12.here hx rfl (hb hby at_57) rfl ((if0 _ _).trans (tlt (by decide : (0 : Int32) < (1 : Int32))).2.2.2) ?_
    show own_S p e below T12 (mkF m 60 #[.val (.int p1), .val (.int (1 : Int32)), .val (.ref w_INTEGER), .val (.long (9223372036854775807 : Int64)), .second, .val (.long (9223372036854775807 : Int64)), .second] []) _
    refine XS.lload X12.here hx rfl (hb hby at_60) rfl ?_
    show own_S p e below T12 (mkF m 62 #[.val (.int p1), .val (.int (1 : Int32)), .val (.ref w_INTEGER), .val (.long (9223372036854775807 : Int64)), .second, .val (.long (9223372036854775807 : Int64)), .second] [(.long (9223372036854775807 : Int64))]) _
    refine XS.aloadN X12.here hx rfl (hb hby at_62) rfl rfl ?_
    show own_S p e below T12 (mkF m 63 #[.val (.int p1), .val (.int (1 : Int32)), .val (.ref w_INTEGER), .val (.long (9223372036854775807 : Int64)), .second, .val (.long (9223372036854775807 : Int64)), .second] [(.ref w_INTEGER), (.long (9223372036854775807 : Int64))]) _
    refine st15 _ ?_
    show own_S p e below T15 (mkF m 66 #[.val (.int p1), .val (.int (1 : Int32)), .val (.ref w_INTEGER), .val (.long (9223372036854775807 : Int64)), .second, .val (.long (9223372036854775807 : Int64)), .second] [(.long (9223372036854775807 : Int64)), (.long (9223372036854775807 : Int64))]) _
    refine XS.lcmp X15.here hx rfl (hb hby at_66) rfl ?_
    show own_S p e below T15 (mkF m 67 #[.val (.int p1), .val (.int (1 : Int32)), .val (.ref w_INTEGER), .val (.long (9223372036854775807 : Int64)), .second, .val (.long (9223372036854775807 : Int64)), .second] [(.int (lcmpW (9223372036854775807 : Int64) (9223372036854775807 : Int64)))]) _
    rw [(by decide : (lcmpW (9223372036854775807 : Int64) (9223372036854775807 : Int64)) = (0 : Int32))]
    show own_S p e below T15 (mkF m 67 #[.val (.int p1), .val (.int (1 : Int32)), .val (.ref w_INTEGER), .val (.long (9223372036854775807 : Int64)), .second, .val (.long (9223372036854775807 : Int64)), .second] [(.int (0 : Int32))]) _
    refine XS.ifNo X15.here hx rfl (hb hby at_67) rfl ((if0 _ _).trans (flt (Int32.lt_irrefl : ¬ ((0 : Int32) < (0 : Int32)))).1) ?_
    show own_S p e below T15 (mkF m 70 #[.val (.int p1), .val (.int (1 : Int32)), .val (.ref w_INTEGER), .val (.long (9223372036854775807 : Int64)), .second, .val (.long (9223372036854775807 : Int64)), .second] []) _
    refine XS.iconst X15.here hx rfl (hb hby at_70) ?_
    show own_S p e below T15 (mkF m 71 #[.val (.int p1), .val (.int (1 : Int32)), .val (.ref w_INTEGER), .val (.long (9223372036854775807 : Int64)), .second, .val (.long (9223372036854775807 : Int64)), .second] [(.int (1 : Int32))]) _
    refine XS.goto X15.here hx rfl (pc0 := 71) (pc' := 75) rfl (hb hby at_71) (by decide) (by decide) ?_
    show own_S p e below T15 (mkF m 75 #[.val (.int p1), .val (.int (1 : Int32)), .val (.ref w_INTEGER), .val (.long (9223372036854775807 : Int64)), .second, .val (.long (9223372036854775807 : Int64)), .second] [(.int (1 : Int32))]) _
    exact retN X15 hx (t := .boolean) hret (by simp) (hb hby at_75) hr
  · show Qrm0_1 Z w_INTEGER p1 h0 _ T15.heap _
    exact ⟨rfl, N15⟩
set_option maxRecDepth 65536 in
set_option maxHeartbeats 40000000 in
theorem comes_1 {Post : Tables → Env → Array Value → State → Outcome → State → Prop} (hpost : ∀ tb e args s v u, (limb_1_1.after args s (.returned v) u = true ∧ limb_1_2.after args s (.returned v) u = true ∧ True) → FrameEnd s (.returned v) u (Jvm.fieldLocs frame_1_writes args s ++ Jvm.arrayLocs frame_1_arrays args s ++ Jvm.staticLocs frame_1_statics s) 0 0 → Post tb e args s (.returned v) u) :
    ArmFor flags0 classFile x code maxLocals ret World_1 tables_1 room_1 Calls_1 rest_1 Pre_1 Post := by
  intro l hfl _ _ p e ha hc hk s m args below hf hA hF happ hP
  obtain ⟨hcalls, hrest, hpre⟩ := hP
  obtain ⟨-, -, -, hnamed, -, -, -, hat⟩ := (Spec.applies_iff hf).mp happ
  obtain ⟨hg, hn⟩ := and_e (Cond.before_iff.mp (show (Jvm.Cond.and given_1 narrow_1).before args s = true from hpre))
  obtain ⟨hcount, hG0⟩ := and_e hg
  have hA0 := hG0
  obtain ⟨v0, rfl⟩ : ∃ v0 : Value, args = #[v0] := by
    have hs : args.size = 1 := by simpa [Cond.value, given_1] using hcount
    obtain ⟨L⟩ := args
    match L, hs with
    | [v0], _ => exact ⟨v0, rfl⟩
  have hw := fun d (hd : d ∈ tables_1) => atoms_spec (ws := Jvm.Cond.code x code maxLocals ret :: tables_1) hat d (List.mem_cons_of_mem _ hd)
  obtain ⟨p1, ei0⟩ := is_v hA0
  obtain rfl : v0 = (.int p1) := Option.some.inj ei0
  obtain ⟨hN0, hR0⟩ := and_e hn
  obtain ⟨hN1, hR1⟩ := and_e hR0
  obtain ⟨hN2, hR2⟩ := and_e hR1
  obtain ⟨hN3, hR3⟩ := and_e hR2
  obtain ⟨hN4, hR4⟩ := and_e hR3
  have hN5 := hR4
  obtain ⟨w_STRING, ev_w_STRING⟩ := exa_v hN0
  have E_w_STRING : Exa s s.heap w_STRING "com/example/garden_rows/gardenrows/rules/KeyType$2" := Exa.start ev_w_STRING hN0
  have S_w_STRING : Sta s s.heap "com/example/garden_rows/gardenrows/rules/KeyType" "STRING" "Lcom/example/garden_rows/gardenrows/rules/KeyType;" (.ref w_STRING) := Sta.start ev_w_STRING (Or.inr ⟨(own_w hw 1 rfl), (own_w hw 2 rfl)⟩)
  obtain ⟨w_INTEGER, ev_w_INTEGER⟩ := exa_v hN3
  have E_w_INTEGER : Exa s s.heap w_INTEGER "com/example/garden_rows/gardenrows/rules/KeyType$1" := Exa.start ev_w_INTEGER hN3
  have S_w_INTEGER : Sta s s.heap "com/example/garden_rows/gardenrows/rules/KeyType" "INTEGER" "Lcom/example/garden_rows/gardenrows/rules/KeyType;" (.ref w_INTEGER) := Sta.start ev_w_INTEGER (Or.inr ⟨(own_w hw 1 rfl), (own_w hw 20 rfl)⟩)
  have F_w_STRING_lowestHash : Fld s s.heap w_STRING "com/example/garden_rows/gardenrows/rules/KeyType" "lowestHash" "J" (.long (-2147483648 : Int64)) := Fld.start ((fld_at ev_w_STRING).symm.trans (own_eqJ hN1))
  have F_w_STRING_highestHash : Fld s s.heap w_STRING "com/example/garden_rows/gardenrows/rules/KeyType" "highestHash" "J" (.long (2147483647 : Int64)) := Fld.start ((fld_at ev_w_STRING).symm.trans (own_eqJ hN2))
  have F_w_INTEGER_lowestHash : Fld s s.heap w_INTEGER "com/example/garden_rows/gardenrows/rules/KeyType" "lowestHash" "J" (.long (-9223372036854775808 : Int64)) := Fld.start ((fld_at ev_w_INTEGER).symm.trans (own_eqJ hN4))
  have F_w_INTEGER_highestHash : Fld s s.heap w_INTEGER "com/example/garden_rows/gardenrows/rules/KeyType" "highestHash" "J" (.long (9223372036854775807 : Int64)) := Fld.start ((fld_at ev_w_INTEGER).symm.trans (own_eqJ hN5))
  have hX0 : Ext s.heap s.heap := ⟨Nat.le_refl _, fun _ _ q => q⟩
  have key : MetFree l x (head1 (Jvm.Cond.code x code maxLocals ret :: tables_1) room_1) (fun a U => a = #[(.int p1)] ∧ s.Warmed39 U.vm ∧ U.heap = s.heap) (fun _ _ _ _ _ => True) (fun _ U o U' => ∃ v L, o = .returned v ∧ (v = some (.int 1) ∧ Fr s.heap.size L) ∧ FrameEnd U o U' L room_1.cells room_1.slots) := by
    rcases own_split p1 with hq | hq
    · exact rm0_0 l s _ hw tables_1 w_STRING p1 s.heap hX0 S_w_STRING E_w_STRING F_w_STRING_lowestHash F_w_STRING_highestHash hq
    · exact rm0_1 l s _ hw tables_1 w_INTEGER p1 s.heap hX0 S_w_INTEGER E_w_INTEGER F_w_INTEGER_lowestHash F_w_INTEGER_highestHash hq
  obtain ⟨n, o, h1, h2, h3, _, L, rfl, ⟨rfl, N⟩, hq⟩ := key p e ha hc hk s m _ below hf ((Spec.applies_iff_loose hf).mp happ).1 ⟨rfl, State.Warmed39.refl s, rfl⟩ trivial
  refine ⟨n, _, h1, h2, h3, hpost _ _ _ _ _ _ ⟨Cond.after_iff.mpr rfl, Cond.after_iff.mpr (eq_i res_at (Term.int_eval (1)) rfl), trivial⟩ ⟨hq.1, hq.2.1, (hq.2.2.sift fun y hy => Or.inr (N y hy)).mono (by decide) (by decide)⟩⟩
theorem main_1_1 : Claimed_1_1 := comes_1 fun _ _ _ _ _ _ h hF => ⟨h.1, hF⟩
theorem main_1_2 : Claimed_1_2 := comes_1 fun _ _ _ _ _ _ h hF => ⟨h.2.1, hF⟩
end Jvm.Pilot.@@N@@
namespace Jvm.Pilot.@@N@@
open Jvm Jvm.ClassFile Sem Op Lib Jvm.Free Jvm.Stand Jvm.Pilot.@@N@@.Jvm.D
/-! MADE BY PROGRAM (witnessworld.py) out of the Statement's table words and the real class files: 14 classes; the members and pool entries that the words name. The judged class is class 1, her method 1. -/
namespace start1
open Jvm.ClassFile
def u (s : String) : CpInfo := .utf8 (stringToUtf16 s)
/-- a pool by its gaps: so many unusable entries, then the entry; so many at the end -/
def gap : Nat → List CpInfo → List CpInfo
  | 0, r => r
  | n + 1, r => .unusable :: gap n r
def poolList (es : List (Nat × CpInfo)) (last : Nat) : List CpInfo := es.foldr (fun e r => gap e.1 (e.2 :: r)) (gap last [])
def pool (es : List (Nat × CpInfo)) (last : Nat) : Array CpInfo := ⟨poolList es last⟩
def fileOf (pool : Array CpInfo) (this : Nat) (attrs : Array Attribute := #[]) (ms : Array MethodInfo := #[]) (fl : Nat := 33) (sup : Nat := 0) (ifs : Array Nat := #[]) (fds : Array FieldInfo := #[]) : ClassFile where
  minorVersion := 0
  majorVersion := 65
  constantPool := pool
  accessFlags := fl
  thisClass := this
  superClass := sup
  interfaces := ifs
  fields := fds
  methods := ms
  attributes := attrs
def plain (name : String) (sup : Option ClassId) : Class where
  name := name
  kind := .ordinary
  loader := none
  accessFlags := 33
  super := sup
  interfaces := #[]
  cf := none
  fields := #[]
  methods := #[]
  instanceTypes := #[]
  staticTypes := #[]
  resolved := #[]
  callSites := []
  init := .initialized
  statics := none
  mirror := none

def pool0 : Array CpInfo := pool [(5, u "<init>"), (0, u "()V"), (1, .class_ 10), (1, u "java/lang/Object")] 113

def k0m0 : Method := { name := "<init>", desc := "()V", sig := { parameters := [], returnType := none }, accessFlags := 1, code := none }
/-- java/lang/Object -/
def k0 : Class := { plain "java/lang/Object" none with
  accessFlags := 33
  interfaces := #[]
  cf := some (fileOf pool0 8 #[] #[{ accessFlags := 1, nameIndex := 5, descriptorIndex := 6, attributes := #[] }] 33 0 #[] #[])
  fields := #[]
  methods := #[k0m0]
  instanceTypes := #[]
  staticTypes := #[]
  resolved := Array.replicate 124 none
  statics := none }

def pool1 : Array CpInfo := pool [(2, .class_ 4), (1, u "java/lang/Object"), (0, u "<init>"), (0, u "()V"), (0, .fieldref 8 9), (0, .class_ 10), (0, .nameAndType 11 12), (0, u "com/example/garden_rows/gardenrows/rules/KeyType"), (0, u "INTEGER"), (0, u "Lcom/example/garden_rows/gardenrows/rules/KeyType;"), (0, .fieldref 8 14), (0, .nameAndType 15 12), (0, u "STRING"), (2, .long 9223372036854775807), (1, .long 2147483648), (1, .methodref 8 23), (0, .nameAndType 24 25), (0, u "largestHash"), (0, u "()J"), (0, .methodref 8 27), (0, .nameAndType 28 25), (0, u "highestHash"), (0, .class_ 30), (0, u "com/example/garden_rows/gardenrows/rules/KeyTypeLargestHashPinLaw"), (2, u "law"), (0, u "(I)Z")] 3

def k1m0 : Method := { name := "<init>", desc := "()V", sig := { parameters := [], returnType := none }, accessFlags := 1, code := none }
def k1c1 : Code := { maxStack := 4, maxLocals := 7, code := code, exceptionTable := #[], attributes := #[] }
def k1m1 : Method := { name := "law", desc := "(I)Z", sig := { parameters := [.int], returnType := some .boolean }, accessFlags := 9, code := some k1c1 }
/-- com/example/garden_rows/gardenrows/rules/KeyTypeLargestHashPinLaw -/
def k1 : Class := { plain "com/example/garden_rows/gardenrows/rules/KeyTypeLargestHashPinLaw" (some 0) with
  accessFlags := 49
  interfaces := #[]
  cf := some (fileOf pool1 29 #[] #[{ accessFlags := 1, nameIndex := 5, descriptorIndex := 6, attributes := #[] }, { accessFlags := 9, nameIndex := 33, descriptorIndex := 34, attributes := #[] }] 49 2 #[] #[])
  fields := #[]
  methods := #[k1m0, k1m1]
  instanceTypes := #[]
  staticTypes := #[]
  resolved := Array.replicate 38 none
  statics := none }

def pool2 : Array CpInfo := pool [(1, .class_ 2), (0, u "java/lang/constant/Constable"), (0, .class_ 4), (0, u "java/lang/Object")] 6

/-- java/lang/constant/Constable -/
def k2 : Class := { plain "java/lang/constant/Constable" (some 0) with
  accessFlags := 1537
  interfaces := #[]
  cf := some (fileOf pool2 1 #[] #[] 1537 3 #[] #[])
  fields := #[]
  methods := #[]
  instanceTypes := #[]
  staticTypes := #[]
  resolved := Array.replicate 11 none
  statics := none }

def pool3 : Array CpInfo := pool [(1, .class_ 2), (0, u "java/lang/Comparable"), (0, .class_ 4), (0, u "java/lang/Object")] 7

/-- java/lang/Comparable -/
def k3 : Class := { plain "java/lang/Comparable" (some 0) with
  accessFlags := 1537
  interfaces := #[]
  cf := some (fileOf pool3 1 #[] #[] 1537 3 #[] #[])
  fields := #[]
  methods := #[]
  instanceTypes := #[]
  staticTypes := #[]
  resolved := Array.replicate 12 none
  statics := none }

def pool4 : Array CpInfo := pool [(1, .class_ 2), (0, u "java/io/Serializable"), (0, .class_ 4), (0, u "java/lang/Object")] 2

/-- java/io/Serializable -/
def k4 : Class := { plain "java/io/Serializable" (some 0) with
  accessFlags := 1537
  interfaces := #[]
  cf := some (fileOf pool4 1 #[] #[] 1537 3 #[] #[])
  fields := #[]
  methods := #[]
  instanceTypes := #[]
  staticTypes := #[]
  resolved := Array.replicate 7 none
  statics := none }

def pool5 : Array CpInfo := pool [(2, .class_ 4), (1, u "java/lang/Enum"), (0, u "name"), (0, u "Ljava/lang/String;"), (2, u "ordinal"), (0, u "I"), (1, .class_ 14), (1, u "java/lang/Object"), (4, u "hash"), (86, .class_ 108), (1, u "java/lang/Enum$EnumDesc"), (2, .class_ 112), (0, u "java/lang/constant/Constable"), (0, .class_ 114), (0, u "java/lang/Comparable"), (0, .class_ 116), (0, u "java/io/Serializable")] 87

/-- java/lang/Enum -/
def k5 : Class := { plain "java/lang/Enum" (some 0) with
  accessFlags := 1057
  interfaces := #[2, 3, 4]
  cf := some (fileOf pool5 2 #[.nestMembers #[106]] #[] 1057 12 #[111, 113, 115] #[{ accessFlags := 18, nameIndex := 5, descriptorIndex := 6, attributes := #[] }, { accessFlags := 18, nameIndex := 9, descriptorIndex := 10, attributes := #[] }, { accessFlags := 2, nameIndex := 19, descriptorIndex := 10, attributes := #[] }])
  fields := #[{ name := "name", type := (.object "java/lang/String"), accessFlags := 18, slot := 0, constantValue := 0 }, { name := "ordinal", type := .int, accessFlags := 18, slot := 1, constantValue := 0 }, { name := "hash", type := .int, accessFlags := 2, slot := 2, constantValue := 0 }]
  methods := #[]
  instanceTypes := #[(.object "java/lang/String"), .int, .int]
  staticTypes := #[]
  resolved := Array.replicate 204 none
  statics := none }

def pool6 : Array CpInfo := pool [(1, .class_ 2), (0, u "com/example/garden_rows/gardenrows/rules/KeyType"), (2, u "INTEGER"), (0, u "Lcom/example/garden_rows/gardenrows/rules/KeyType;"), (2, u "STRING"), (2, u "$VALUES"), (0, u "[Lcom/example/garden_rows/gardenrows/rules/KeyType;"), (6, .class_ 22), (1, u "java/lang/Enum"), (8, u "propertyValue"), (0, u "Ljava/lang/String;"), (0, .fieldref 1 34), (0, .nameAndType 35 36), (0, u "lowestHash"), (0, u "J"), (0, .fieldref 1 38), (0, .nameAndType 39 36), (0, u "highestHash"), (22, .long 9223372036854775808), (1, .long 9223372036854775807), (12, u "()J"), (49, .class_ 128), (0, u "com/example/garden_rows/gardenrows/rules/KeyType$1"), (6, .class_ 136), (0, u "com/example/garden_rows/gardenrows/rules/KeyType$2"), (21, u "DECIMAL"), (0, u "Ljava/util/regex/Pattern;"), (10, u "largestHash")] 31

def k6c0 : Code := { maxStack := 4, maxLocals := 1, code := prog_85_method_6_code, exceptionTable := #[], attributes := #[] }
def k6m0 : Method := { name := "largestHash", desc := "()J", sig := { parameters := [], returnType := some .long }, accessFlags := 0, code := some k6c0 }
def k6c1 : Code := { maxStack := 2, maxLocals := 1, code := prog_85_method_8_code, exceptionTable := #[], attributes := #[] }
def k6m1 : Method := { name := "highestHash", desc := "()J", sig := { parameters := [], returnType := some .long }, accessFlags := 1, code := some k6c1 }
/-- com/example/garden_rows/gardenrows/rules/KeyType -/
def k6 : Class := { plain "com/example/garden_rows/gardenrows/rules/KeyType" (some 5) with
  accessFlags := 17441
  interfaces := #[]
  cf := some (fileOf pool6 1 #[.nestMembers #[135, 127]] #[{ accessFlags := 0, nameIndex := 170, descriptorIndex := 77, attributes := #[] }, { accessFlags := 1, nameIndex := 39, descriptorIndex := 77, attributes := #[] }] 17441 20 #[] #[{ accessFlags := 16409, nameIndex := 5, descriptorIndex := 6, attributes := #[] }, { accessFlags := 16409, nameIndex := 9, descriptorIndex := 6, attributes := #[] }, { accessFlags := 26, nameIndex := 158, descriptorIndex := 159, attributes := #[] }, { accessFlags := 18, nameIndex := 31, descriptorIndex := 32, attributes := #[] }, { accessFlags := 18, nameIndex := 35, descriptorIndex := 36, attributes := #[] }, { accessFlags := 18, nameIndex := 39, descriptorIndex := 36, attributes := #[] }, { accessFlags := 4122, nameIndex := 12, descriptorIndex := 13, attributes := #[] }])
  fields := #[{ name := "INTEGER", type := (.object "com/example/garden_rows/gardenrows/rules/KeyType"), accessFlags := 16409, slot := 0, constantValue := 0 }, { name := "STRING", type := (.object "com/example/garden_rows/gardenrows/rules/KeyType"), accessFlags := 16409, slot := 1, constantValue := 0 }, { name := "DECIMAL", type := (.object "java/util/regex/Pattern"), accessFlags := 26, slot := 2, constantValue := 0 }, { name := "propertyValue", type := (.object "java/lang/String"), accessFlags := 18, slot := 3, constantValue := 0 }, { name := "lowestHash", type := .long, accessFlags := 18, slot := 4, constantValue := 0 }, { name := "highestHash", type := .long, accessFlags := 18, slot := 5, constantValue := 0 }, { name := "$VALUES", type := (.array (.object "com/example/garden_rows/gardenrows/rules/KeyType")), accessFlags := 4122, slot := 3, constantValue := 0 }]
  methods := #[k6m0, k6m1]
  instanceTypes := #[(.object "java/lang/String"), .int, .int, (.object "java/lang/String"), .long, .long]
  staticTypes := #[(.object "com/example/garden_rows/gardenrows/rules/KeyType"), (.object "com/example/garden_rows/gardenrows/rules/KeyType"), (.object "java/util/regex/Pattern"), (.array (.object "com/example/garden_rows/gardenrows/rules/KeyType"))]
  resolved := Array.replicate 202 none
  statics := some 0 }

def pool7 : Array CpInfo := pool [(2, .class_ 4), (1, u "com/example/garden_rows/gardenrows/rules/KeyType"), (18, .class_ 25), (1, u "com/example/garden_rows/gardenrows/rules/KeyType$2")] 34

/-- com/example/garden_rows/gardenrows/rules/KeyType$2 -/
def k7 : Class := { plain "com/example/garden_rows/gardenrows/rules/KeyType$2" (some 6) with
  accessFlags := 16432
  interfaces := #[]
  cf := some (fileOf pool7 23 #[.nestHost 2] #[] 16432 2 #[] #[])
  fields := #[]
  methods := #[]
  instanceTypes := #[(.object "java/lang/String"), .int, .int, (.object "java/lang/String"), .long, .long]
  staticTypes := #[]
  resolved := Array.replicate 60 none
  statics := none }

def pool8 : Array CpInfo := pool [(2, .class_ 4), (1, u "com/example/garden_rows/gardenrows/rules/KeyType"), (48, .class_ 55), (1, u "com/example/garden_rows/gardenrows/rules/KeyType$1")] 39

/-- com/example/garden_rows/gardenrows/rules/KeyType$1 -/
def k8 : Class := { plain "com/example/garden_rows/gardenrows/rules/KeyType$1" (some 6) with
  accessFlags := 16432
  interfaces := #[]
  cf := some (fileOf pool8 53 #[.nestHost 2] #[] 16432 2 #[] #[])
  fields := #[]
  methods := #[]
  instanceTypes := #[(.object "java/lang/String"), .int, .int, (.object "java/lang/String"), .long, .long]
  staticTypes := #[]
  resolved := Array.replicate 95 none
  statics := none }

def pool9 : Array CpInfo := pool [(1, u "java/lang/Cloneable"), (0, .class_ 1), (0, u "java/lang/Object"), (0, .class_ 3)] 3

/-- java/lang/Cloneable -/
def k9 : Class := { plain "java/lang/Cloneable" (some 0) with
  accessFlags := 1537
  interfaces := #[]
  cf := some (fileOf pool9 2 #[] #[] 1537 4 #[] #[])
  fields := #[]
  methods := #[]
  instanceTypes := #[]
  staticTypes := #[]
  resolved := Array.replicate 8 none
  statics := none }

/-- the primitive byte -/
def k10 : Class := { plain "byte" none with kind := .primitive 'B', accessFlags := 0x411 }
/-- [B -/
def k11 : Class := { plain "[B" (some 0) with kind := .array 10 .byte, interfaces := #[9, 4], accessFlags := 1041 }

/-- the primitive int -/
def k12 : Class := { plain "int" none with kind := .primitive 'I', accessFlags := 0x411 }
/-- [I -/
def k13 : Class := { plain "[I" (some 0) with kind := .array 12 .int, interfaces := #[9, 4], accessFlags := 1041 }

def heap : Heap := #[{ cls := 6, slots := #[.ref 2, .ref 1, .null, .null], vm := .statics 6 },
  { cls := 7, slots := #[.null, .int 0, .int 0, .null, .long (-2147483648), .long 2147483647], vm := .none },
  { cls := 8, slots := #[.null, .int 0, .int 0, .null, .long (-9223372036854775808), .long 9223372036854775807], vm := .none }]
def classes : Array Class := #[k0, k1, k2, k3, k4, k5, k6, k7, k8, k9, k10, k11, k12, k13]
def interned : List (Array UInt16 × Addr) := []
def slotsUsed : Nat := 16
def theMethod : MethodId := ⟨1, 1⟩
def args0 : Array Value := #[.int 5]
def aboutOver (below : List Frame) : State where
  vm := { classes := classes, interned := interned.toArray }
  heap := heap
  slotsUsed := slotsUsed
  threads := #[{ frames := .invoking theMethod args0 :: below }]
def below0 : List Frame := [.native { method := ⟨0, 0⟩, args := #[] }]
def about1 : State := aboutOver below0
def p0 : Program := .bare "" "" ""
def e0 : Env := launch0.env 0 0 0
theorem w_frames : about1.frames = Frame.invoking theMethod args0 :: below0 := rfl
set_option maxRecDepth 65536 in
theorem w_args : argsFit about1.vm theMethod args0 = true := by decide +kernel
set_option maxRecDepth 65536 in
theorem w_heap : heapFits about1 = true := by decide +kernel
set_option maxRecDepth 65536 in
theorem w_runnable : about1.curStatus? = some .runnable := by decide +kernel
set_option maxRecDepth 65536 in
theorem w_alone : about1.alone = true := by decide +kernel
set_option maxRecDepth 65536 in
theorem w_named : about1.methodNamed? x = some theMethod := by decide +kernel
set_option maxRecDepth 65536 in
theorem w_hears : about1.hears theMethod below0 = true := by decide +kernel
set_option maxRecDepth 65536 in
theorem w_ripe : about1.ripe theMethod args0 below0 = true := by decide +kernel
theorem w_running : about1.status = .running := rfl
set_option maxRecDepth 65536 in
theorem w_room : about1.hasRoom e0.platform room_1 = true :=
  launch0.hasRoom_least _ room_1 (by decide +kernel) (by decide +kernel) (by decide +kernel) (by decide +kernel) (by decide +kernel) (by decide +kernel)
theorem allAtoms_all (ts : List Jvm.Cond) (a : Array Jvm.Value) (st : Jvm.State) : (allAtoms ts).before a st = ts.all (fun c => c.before a st) := by
  induction ts with
  | nil => rfl
  | cons c t ih =>
    show (Jvm.Cond.and c (allAtoms t)).before a st = _
    rw [Jvm.Cond.before_and, ih, List.all_cons]
def words1 : List Jvm.Cond := Jvm.Cond.code x code maxLocals ret :: tables_1
/-- a 'code' word, met by the world's own term for the bytes: nothing is compared byte by byte -/
theorem code_word {y : MethodName} {bytes : ByteArray} {mx : Nat} {rt : Option FieldType} {a : Array Value} {s : State} {m : MethodId} {meth : Method} {c : Code} (h1 : s.methodNamed? y = some m) (h2 : s.vm.method? m = some meth) (h3 : meth.code = some c) (h4 : c.code = bytes)
    (h5 : (c.maxLocals == mx && c.exceptionTable.isEmpty && decide (c.maxStack ≤ mostOperands) && decide (meth.sig.returnType = rt) && !meth.locks && decide (parseMethodDescriptor y.desc = some meth.sig)) = true) : (Jvm.Cond.code y bytes mx rt).before a s = true := by
  simp only [Bool.and_eq_true, beq_iff_eq, Bool.not_eq_true', decide_eq_true_eq] at h5
  obtain ⟨⟨⟨⟨⟨g1, g2⟩, g3⟩, g4⟩, g5⟩, g6⟩ := h5
  simp [Cond.before, Cond.holds, Cond.value, h1, h2, h3, h4, g1, g2, g3, g4, g5, g6]
def isCode : Jvm.Cond → Bool
  | .code _ _ _ _ => true
  | _ => false
theorem all_split {L : List Jvm.Cond} {P : Jvm.Cond → Bool} (h1 : L.all (fun c => isCode c || P c) = true) (h2 : ∀ c ∈ L.filter isCode, P c = true) : L.all P = true := by
  refine List.all_eq_true.mpr fun c hc => ?_
  have h := List.all_eq_true.mp h1 c hc
  rcases Bool.eq_false_or_eq_true (isCode c) with hi | hi
  · exact h2 c (List.mem_filter.mpr ⟨hc, hi⟩)
  · simpa [hi] using h
set_option maxRecDepth 65536 in
theorem w_c0 : (Jvm.Cond.code x code maxLocals ret).before args0 about1 = true := code_word (m := ⟨1, 1⟩) (meth := k1m1) (c := k1c1) (by decide +kernel) rfl rfl rfl (by decide +kernel)
set_option maxRecDepth 65536 in
theorem w_c1 : (Jvm.Cond.code ({ cls := "com/example/garden_rows/gardenrows/rules/KeyType", name := "largestHash", desc := "()J" } : Jvm.MethodName) prog_85_method_6_code (1 : Nat) (Option.some Jvm.ClassFile.FieldType.long)).before args0 about1 = true := code_word (m := ⟨6, 0⟩) (meth := k6m0) (c := k6c0) (by decide +kernel) rfl rfl rfl (by decide +kernel)
set_option maxRecDepth 65536 in
theorem w_c2 : (Jvm.Cond.code ({ cls := "com/example/garden_rows/gardenrows/rules/KeyType", name := "highestHash", desc := "()J" } : Jvm.MethodName) prog_85_method_8_code (1 : Nat) (Option.some Jvm.ClassFile.FieldType.long)).before args0 about1 = true := code_word (m := ⟨6, 1⟩) (meth := k6m1) (c := k6c1) (by decide +kernel) rfl rfl rfl (by decide +kernel)
def codes1 : List Jvm.Cond := [Jvm.Cond.code x code maxLocals ret, Jvm.Cond.code ({ cls := "com/example/garden_rows/gardenrows/rules/KeyType", name := "largestHash", desc := "()J" } : Jvm.MethodName) prog_85_method_6_code (1 : Nat) (Option.some Jvm.ClassFile.FieldType.long), Jvm.Cond.code ({ cls := "com/example/garden_rows/gardenrows/rules/KeyType", name := "highestHash", desc := "()J" } : Jvm.MethodName) prog_85_method_8_code (1 : Nat) (Option.some Jvm.ClassFile.FieldType.long)]
set_option maxRecDepth 65536 in
theorem codes_eq : words1.filter isCode = codes1 := rfl
theorem w_codes : ∀ c ∈ words1.filter isCode, c.before args0 about1 = true := by
  rw [codes_eq]
  intro c hc
  simp only [codes1, List.mem_cons, List.not_mem_nil, or_false] at hc
  rcases hc with rfl | rfl | rfl
  · exact w_c0
  · exact w_c1
  · exact w_c2
set_option maxRecDepth 65536 in
theorem w_t1 : (words1.take 24).all (fun c => isCode c || c.before args0 about1) = true := by decide +kernel
set_option maxRecDepth 65536 in
theorem w_t2 : (words1.drop 24).all (fun c => isCode c || c.before args0 about1) = true := by decide +kernel
theorem w_tables : (allAtoms (Jvm.Cond.code x code maxLocals ret :: tables_1)).before args0 about1 = true := by
  rw [allAtoms_all]
  show words1.all (fun c => c.before args0 about1) = true
  refine all_split ?_ w_codes
  rw [← List.take_append_drop 24 words1, List.all_append, w_t1, w_t2]
  rfl
set_option maxRecDepth 65536 in
theorem w_case : (Jvm.Cond.and given_1 narrow_1).before args0 about1 = true := by decide +kernel
theorem w_applies : (headSpec (Jvm.Cond.code x code maxLocals ret :: tables_1) room_1).applies x e0.platform about1 = true :=
  (Spec.applies_iff w_frames).mpr ⟨w_running, w_runnable, w_alone, w_named, w_hears, w_ripe, w_room, w_tables⟩
theorem atStart : AtStart classFile x code maxLocals ret World_1 tables_1 room_1 Calls_1 rest_1 Pre_1 launch0 p0 e0 about1 theMethod args0 below0 :=
  ⟨lists_1, trivial, launch0.admits_env _ _ _, launch0.least_env, fairChoices_fair.cas, fairChoices_fair.clock, w_frames, w_args, w_heap, w_applies, trivial, trivial, w_case⟩
end start1
theorem witness_1 : WitnessClaimed_1 := ⟨start1.p0, start1.e0, start1.about1, start1.theMethod, start1.args0, start1.below0, start1.atStart⟩
end Jvm.Pilot.@@N@@
