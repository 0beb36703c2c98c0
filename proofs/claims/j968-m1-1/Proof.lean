import JvmDerived
import JvmDerived.Pilot.@@N@@Statement
import JvmDerived.Pilot.@@N@@Code
set_option linter.unusedVariables false
set_option linter.unusedSimpArgs false
namespace Jvm.RoadKit
open Sem ClassFile Op Lib Jvm.Stand Jvm.Free Jvm.LawKit
section New
variable {p : Program} {l : Launch} {e : Env} {R : Room} {s : State} {m : MethodId} {args : Array Value} {below : List Frame} {meth : Method} {c : Code} {T : State} {locs : List Loc} {cells slots : Nat}
theorem retI (X : Stand p l e R s m args below meth c T locs cells slots) (hx : p.tables.exec = Jvm.exec) {pc : Nat} {Ls : Array Slot} {z : Int32} {rest : List Value} (hret : meth.sig.returnType = some .int) (hd : decode c.code pc = .ok (.ireturn, 1)) {fs : List Frame}
    (hl : ∀ (f : JFrame) (acts : List Action), f.method = m → f.locked = none → f.entered = [] → (doReturn e (T.setTop f) acts (some (.int z))).1 = T.setFrames fs) : Steps p.tables e below (T.setTop (mkF m pc Ls (.int z :: rest))) (T.setFrames fs) := by
  have hm' : T.vm.method? m = some meth := X.method'
  have hn : narrow .int (.int z) = .int z := rfl
  show Steps p.tables e below (T.setTop { method := m, pc := pc, locals := Ls, stack := _ :: rest, locked := none }) _
  jvm_step X.here [X.here.top, hx, hd, hm', hret, hn]
  first | (intro acts; rw [hl _ acts rfl rfl rfl]) | rw [hl _ _ rfl rfl rfl]
  exact Steps.refl _
end New
end Jvm.RoadKit
namespace Jvm.Pilot.@@N@@
open Jvm Jvm.ClassFile Sem Op Lib Jvm.Free Jvm.Stand Jvm.LawKit Jvm.RoadKit Bundle Jvm.Pilot.@@N@@.Jvm.D
theorem own_eqI {t : Term} {n : Int32} {args : Array Value} {s : State} (h : (Jvm.Cond.eq t (.int n)).value args s none s [] = some true) : t.eval args s none [] s = some (.int n) := by
  simp only [Cond.value, Term.eval] at h
  cases ht : t.eval args s none [] s with
  | none => simp [ht] at h
  | some x => cases x <;> simp [ht] at h ⊢; exact h
theorem own_eqJ {t : Term} {n : Int64} {args : Array Value} {s : State} (h : (Jvm.Cond.eq t (.long n)).value args s none s [] = some true) : t.eval args s none [] s = some (.long n) := by
  simp only [Cond.value, Term.eval] at h
  cases ht : t.eval args s none [] s with
  | none => simp [ht] at h
  | some x => cases x <;> simp [ht] at h ⊢; exact h
theorem own_eqR {t u : Term} {a : Addr} {args : Array Value} {s : State} (h : (Jvm.Cond.eq t u).value args s none s [] = some true) (hu : u.eval args s none [] s = some (.ref a)) : t.eval args s none [] s = some (.ref a) := by
  simp only [Cond.value, hu] at h
  cases ht : t.eval args s none [] s with
  | none => simp [ht] at h
  | some x => cases x <;> simp [ht] at h ⊢; exact h
theorem own_len {t : Term} {w : Addr} {c : Cell} {ty : FieldType} {n : Int32} {args : Array Value} {s : State} (ev : t.eval args s none [] s = some (.ref w)) (A : Arr s s.heap w c ty) (h : (Term.length t).eval args s none [] s = some (.int n)) (hn : ¬ n < 0) : c.slots.size = n.toNatClampNeg := by
  simp only [Term.eval, ev, A.fin (Vm.Alike.refl _), Option.bind_eq_bind, Option.bind_some] at h
  split at h
  · rename_i hl
    have q : c.slots.size.toInt32 = n := by simpa using h
    rw [← q]
    have q2 : c.slots.size.toInt32.toInt = (c.slots.size : Int) := len_toInt hl
    have q3 := nat_of (j := c.slots.size.toInt32) (by rw [q]; exact hn)
    omega
  · simp at h
theorem own_extW {Z : State} {h h' : Heap} {a : Addr} {sl : Nat} {v : Value} (X : Ext Z.heap h) (W : Wr h h' a sl v) (q : Z.heap.size ≤ a) : Ext Z.heap h' := (Old.wr (Z := Z) ⟨rfl, X⟩ W q).2
theorem own_ext2 {h h' h'' : Heap} (X : Ext h h') (E : Ext h' h'') : Ext h h'' := ⟨Nat.le_trans X.1 E.1, fun x c q => E.2 x c (X.2 x c q)⟩
theorem own_extK {Z : State} {h h' : Heap} {ws : List Addr} (X : Ext Z.heap h) (K : Keep h h' ws) (q : ∀ x ∈ ws, Z.heap.size ≤ x) : Ext Z.heap h' := (Old.keep (Z := Z) ⟨rfl, X⟩ K q).2
theorem own_neI {t : Term} {n x : Int32} {args : Array Value} {s : State} (h : (Jvm.Cond.eq t (.int n)).value args s none s [] = some (!true)) (ev : t.eval args s none [] s = some (.int x)) : ¬ (x = n) := by
  intro q
  subst q
  simp [Cond.value, Term.eval, ev] at h
theorem own_nsRoot {Z : State} {a0 : Array Value} {O K : String} {n : Nat} (w : (Jvm.Cond.noSuperclass O).before a0 Z = true) (wk : (Jvm.Cond.instantiable K n).before a0 Z = true) (hn : O ≠ K) : NS Z O K := by
  obtain ⟨c, k, h1, h2, h3, -, -⟩ := Cond.noSuperclass_spec w
  obtain ⟨t, k', g1, -⟩ := Cond.instantiable_spec wk
  have ne := ids_ne h1 g1 hn
  refine ⟨c, t, h1, g1, fun fuel => ?_⟩
  cases fuel with
  | zero => rfl
  | succ f => simp [Vm.isSubclassAux, ne, h2, h3]
theorem own_nsNo {Z : State} {a0 : Array Value} {C S K : String} {n : Nat} (w : (Jvm.Cond.superclass C S).before a0 Z = true) (wk : (Jvm.Cond.instantiable K n).before a0 Z = true) (N : NS Z C K) (hn : C ≠ K) : ∃ c t, Z.vm.findClass C = some c ∧ Z.vm.findClass K = some t ∧ Z.vm.assignable c t = false := by
  obtain ⟨c, t, h0, g0, n3⟩ := N
  obtain ⟨p, k, kp, h1, h2, h3, h4, h5, -, h7⟩ := Cond.superclass_spec h0 w
  obtain ⟨q, k', g1, g2, g5, g7, -, -⟩ := Cond.instantiable_spec wk
  cases g0.symm.trans g1
  have ne := ids_ne h0 g0 hn
  have gi : k'.isInterface = false := by cases hi : k'.isInterface <;> simp [hi] at g7 ⊢
  refine ⟨c, t, h0, g0, ?_⟩
  show Z.vm.assignableAux (255 + 1) c t = false
  simp [Vm.assignableAux, ne, h2, g2, h5, g5, gi, Vm.isSubclass, n3]
theorem own_nb (x : Int32) : nar .byte (x.toInt8.toInt32) = x.toInt8.toInt32 := by simp [nar]
abbrev own_S (p : Program) (e : Env) (below : List Frame) (T : State) (g : JFrame) (t : State) : Prop := Steps p.tables e below (T.setTop g) t
theorem own_w {Z : State} {a0 : Array Value} (hw : ∀ d ∈ tables_1, d.before a0 Z = true) {d : Jvm.Cond} (i : Nat) (h : tables_1[i]? = some d) : d.before a0 Z = true := hw _ (List.mem_of_getElem? h)
/-- a body's contract: what it returns and leaves -/
abbrev own_met (l : Launch) (y : MethodName) (b : ByteArray) (ml : Nat) (rt : Option FieldType) (ws : List Jvm.Cond) (R : Room) (Z : State) (A : Array Value) (h0 : Heap) (Q : Option Value → Heap → List Loc → Prop) : Prop :=
  MetFree l y (head1 (Jvm.Cond.code y b ml rt :: ws) R) (fun a U => a = A ∧ Z.Warmed39 U.vm ∧ U.heap = h0) (fun _ _ _ _ _ => True) (fun _ U o U' => ∃ v L, o = .returned v ∧ Q v U'.heap L ∧ FrameEnd U o U' L R.cells R.slots)
theorem own_start {l : Launch} {y : MethodName} {b : ByteArray} {ml : Nat} {rt : Option FieldType} {ws : List Jvm.Cond} {R : Room} {Z : State} {A : Array Value} {h0 : Heap} {Q : Option Value → Heap → List Loc → Prop} {Ls : Array Slot}
    (hpl : plainFor y = true) (hef : ∀ m, entryFrame m A ml = mkF m 0 Ls [])
    (body : ∀ p e s m below meth c s₁, p.tables.exec = Jvm.exec → c.code = b → c.maxLocals = ml → s.vm.findClass y.cls = some m.cls → meth.name = y.name → Stand p l e R s m A below meth c s₁ [] 0 0 → Z.Warmed39 s.vm → s₁.heap = h0 → meth.sig.returnType = rt → meth.locks = false →
      ∃ s₂ o, Steps p.tables e below (s₁.setTop (mkF m 0 Ls [])) s₂ ∧ s₂.status = .running ∧ Ended s₂ below o ∧ ∃ v L, o = .returned v ∧ Q v s₂.heap L ∧ FrameEnd s o s₂ L R.cells R.slots) : own_met l y b ml rt ws R Z A h0 Q := by
  refine MetFree.of_bodySF hpl hisR ?_
  intro p e s m args below meth c s₁ Bd hml0 hP hK
  obtain ⟨rfl, hZ, hh⟩ := hP
  obtain ⟨s₂, o, k, r⟩ := body p e s m below meth c s₁ Bd.exec Bd.bytes hml0 (findClass_of_methodNamed Bd.named) (name_of_methodNamed Bd.named Bd.method).1 (Stand.of_body Bd) hZ (by rw [← hh, Bd.state]; rfl) Bd.returns Bd.notSynchronized
  exact ⟨s₂, o, castTop (hef m) k, r⟩
section OwnCalls
variable {p : Program} {l : Launch} {e : Env} {R : Room} {s : State} {m : MethodId} {args : Array Value} {below : List Frame} {meth : Method} {c : Code} {T : State} {locs : List Loc} {cells slots : Nat} {Z : State} {a0 : Array Value} {h : Heap} {own : String} {index : Nat} {y z : MethodName} {b : ByteArray} {ml : Nat} {rt : Option FieldType} {rm : Room} {as' : Array Value} {Q : Option Value → Heap → List Loc → Prop} {W : Nat} {g : JFrame} {argsL rest : List Value}
theorem own_static (X : Stand p l e R s m args below meth c T locs cells slots) (hx : p.tables.exec = Jvm.exec) (hZ : Z.Warmed39 s.vm) (hown : s.vm.findClass own = some m.cls) (w1 : (Jvm.Cond.methodLink own index y).before a0 Z = true) (w2 : (Jvm.Cond.static y).before a0 Z = true) (w3 : (Jvm.Cond.initialized y.cls).before a0 Z = true) (w4 : (Jvm.Cond.code y b ml rt).before a0 Z = true)
    (hy : y.cls ≠ "java/lang/invoke/MethodHandle" ∧ y.cls ≠ "java/lang/invoke/VarHandle") (hM : own_met l y b ml rt [] rm Z as' h Q) (hf : rm.frames + 1 ≤ R.frames) (hl : W + (ml + 11) + rm.locals ≤ R.locals) (eT : T.heap = h) (hg : g.method = m) (hsize : g.locals.size = c.maxLocals) (hlen : ∀ sig, parseMethodDescriptor y.desc = some sig → argsL.length = sig.parameters.length) (ha : argsL.toArray = as')
    (hs : g.stack = argsL.reverse ++ rest) (hW : 2 * g.monitorRoom + (rest.map fun v => v.category).sum ≤ W) (hd : decode c.code g.pc = .ok (.invokestatic index, 3)) (hc : cells + rm.cells ≤ R.cells) (hsl : slots + rm.slots ≤ R.slots) :
    ∃ v T' L, Stand p l e R s m args below meth c T' (locs ++ L) (cells + rm.cells) (slots + rm.slots) ∧ Q v T'.heap L ∧ ∀ target, Steps p.tables e below (T'.setTop { g with pc := g.pc + 3, stack := v.toList ++ rest }) target → Steps p.tables e below (T.setTop g) target := by
  obtain ⟨v, _, ⟨T', L', k', n'⟩, -, X', ⟨Lc, hQ, l1, y1, z1⟩, st⟩ := Jvm.LawKit.callS X hx (y := y) hown (mvT hZ w1) (mvT hZ w2) (mvT hZ w3) (mvT hZ w4) hy (backOf (W := W) hM hZ w4 w3 hf hl) (g := g) hg hsize (argsL := argsL) (rest := rest) hlen hs hW hd (fun _ _ => ⟨ha, eT, hc, hsl⟩)
  dsimp only [Pt.U, Pt.locs, Pt.cells, Pt.slots] at X' l1 y1 z1 st hQ
  subst l1 y1 z1
  exact ⟨v, T', Lc, X', hQ, st⟩
theorem own_special (X : Stand p l e R s m args below meth c T locs cells slots) (hx : p.tables.exec = Jvm.exec) (hZ : Z.Warmed39 s.vm) (hown : s.vm.findClass own = some m.cls) (hn : y.name = "<init>") (w1 : (Jvm.Cond.methodLink own index y).before a0 Z = true) (w2 : (Jvm.Cond.instanceMethod y).before a0 Z = true) (w3 : (Jvm.Cond.initialized y.cls).before a0 Z = true) (w4 : (Jvm.Cond.code y b ml none).before a0 Z = true)
    (hy : y.cls ≠ "java/lang/invoke/MethodHandle" ∧ y.cls ≠ "java/lang/invoke/VarHandle") (hM : own_met l y b ml none [] rm Z as' h Q) (hf : rm.frames + 1 ≤ R.frames) (hl : W + (ml + 11) + rm.locals ≤ R.locals) (eT : T.heap = h) (hg : g.method = m) (hsize : g.locals.size = c.maxLocals) (a : Addr) (hlen : ∀ sig, parseMethodDescriptor y.desc = some sig → argsL.length = sig.parameters.length) (ha : (Value.ref a :: argsL).toArray = as')
    (hs : g.stack = argsL.reverse ++ .ref a :: rest) (hW : 2 * g.monitorRoom + (rest.map fun v => v.category).sum ≤ W) (hd : decode c.code g.pc = .ok (.invokespecial index, 3)) (hc : cells + rm.cells ≤ R.cells) (hsl : slots + rm.slots ≤ R.slots) :
    ∃ v T' L, Stand p l e R s m args below meth c T' (locs ++ L) (cells + rm.cells) (slots + rm.slots) ∧ Q v T'.heap L ∧ ∀ target, Steps p.tables e below (T'.setTop { g with pc := g.pc + 3, stack := v.toList ++ rest }) target → Steps p.tables e below (T.setTop g) target := by
  obtain ⟨v, _, ⟨T', L', k', n'⟩, -, X', ⟨Lc, hQ, l1, y1, z1⟩, st⟩ := X.specialBack hx (y := y) hn hown (mvT hZ w1) (mvT hZ w2) (mvT hZ w4) hy (backOf (W := W) hM hZ w4 w3 hf hl) (g := g) hg hsize (Steps.refl _) (a := a) (argsL := argsL) (rest := rest) hlen hs hW hd (fun _ _ => ⟨ha, eT, hc, hsl⟩)
  dsimp only [Pt.U, Pt.locs, Pt.cells, Pt.slots] at X' l1 y1 z1 st hQ
  subst l1 y1 z1
  exact ⟨v, T', Lc, X', hQ, fun _ k => st.trans k⟩
theorem own_virtual (X : Stand p l e R s m args below meth c T locs cells slots) (hx : p.tables.exec = Jvm.exec) (hZ : Z.Warmed39 s.vm) (hown : s.vm.findClass own = some m.cls) {C : String} (w1 : (Jvm.Cond.methodLink own index y).before a0 Z = true) (w5 : (Jvm.Cond.declares y).before a0 Z = true) (w6 : (Jvm.Cond.selects C y y).before a0 Z = true) (w2 : (Jvm.Cond.instanceMethod y).before a0 Z = true) (w3 : (Jvm.Cond.initialized y.cls).before a0 Z = true) (w4 : (Jvm.Cond.code y b ml rt).before a0 Z = true)
    (hy : y.cls ≠ "java/lang/invoke/MethodHandle" ∧ y.cls ≠ "java/lang/invoke/VarHandle") (hM : own_met l y b ml rt [] rm Z as' h Q) (hf : rm.frames + 1 ≤ R.frames) (hl : W + (ml + 11) + rm.locals ≤ R.locals) (eT : T.heap = h) {a : Addr} (E : Exa Z h a C) (hg : g.method = m) (hsize : g.locals.size = c.maxLocals) (hlen : ∀ sig, parseMethodDescriptor y.desc = some sig → argsL.length = sig.parameters.length) (ha : (Value.ref a :: argsL).toArray = as')
    (hs : g.stack = argsL.reverse ++ .ref a :: rest) (hW : 2 * g.monitorRoom + (rest.map fun v => v.category).sum ≤ W) (hd : decode c.code g.pc = .ok (.invokevirtual index, 3)) (hc : cells + rm.cells ≤ R.cells) (hsl : slots + rm.slots ≤ R.slots) :
    ∃ v T' L, Stand p l e R s m args below meth c T' (locs ++ L) (cells + rm.cells) (slots + rm.slots) ∧ Q v T'.heap L ∧ ∀ target, Steps p.tables e below (T'.setTop { g with pc := g.pc + 3, stack := v.toList ++ rest }) target → Steps p.tables e below (T.setTop g) target := by
  obtain ⟨cq, kq, qa, qb, qc⟩ := isOf hZ eT E
  obtain ⟨v, _, ⟨T', L', k', n'⟩, -, X', ⟨Lc, hQ, l1, y1, z1⟩, st⟩ := X.virtualBack hx (y := y) (z := y) hown (mvT hZ w1) (mvT hZ w5) (notFace_of_selects (args := #[]) (mvT hZ w6)) (mvT hZ w6) (mvT hZ w2) hy (backOf (W := W) hM hZ w4 w3 hf hl) qa qc (g := g) hg hsize (Steps.refl _) (argsL := argsL) (rest := rest) hlen hs hW hd (fun _ _ => ⟨ha, eT, hc, hsl⟩)
  dsimp only [Pt.U, Pt.locs, Pt.cells, Pt.slots] at X' l1 y1 z1 st hQ
  subst l1 y1 z1
  exact ⟨v, T', Lc, X', hQ, fun _ k => st.trans k⟩
theorem own_virtualUp (X : Stand p l e R s m args below meth c T locs cells slots) (hx : p.tables.exec = Jvm.exec) (hZ : Z.Warmed39 s.vm) (hown : s.vm.findClass own = some m.cls) {C owner : String} (w1 : (Jvm.Cond.methodLink own index z).before a0 Z = true) (w7 : (Jvm.Cond.sameMethod z.cls owner z.name z.desc).before a0 Z = true) (w5 : (Jvm.Cond.declares ⟨owner, z.name, z.desc⟩).before a0 Z = true) (w6 : (Jvm.Cond.selects C z y).before a0 Z = true) (w2 : (Jvm.Cond.instanceMethod y).before a0 Z = true) (w3 : (Jvm.Cond.initialized y.cls).before a0 Z = true) (w4 : (Jvm.Cond.code y b ml rt).before a0 Z = true)
    (hy : owner ≠ "java/lang/invoke/MethodHandle" ∧ owner ≠ "java/lang/invoke/VarHandle") (hM : own_met l y b ml rt [] rm Z as' h Q) (hf : rm.frames + 1 ≤ R.frames) (hl : W + (ml + 11) + rm.locals ≤ R.locals) (eT : T.heap = h) {a : Addr} (E : Exa Z h a C) (hg : g.method = m) (hsize : g.locals.size = c.maxLocals) (hlen : ∀ sig, parseMethodDescriptor z.desc = some sig → argsL.length = sig.parameters.length) (ha : (Value.ref a :: argsL).toArray = as')
    (hs : g.stack = argsL.reverse ++ .ref a :: rest) (hW : 2 * g.monitorRoom + (rest.map fun v => v.category).sum ≤ W) (hd : decode c.code g.pc = .ok (.invokevirtual index, 3)) (hc : cells + rm.cells ≤ R.cells) (hsl : slots + rm.slots ≤ R.slots) :
    ∃ v T' L, Stand p l e R s m args below meth c T' (locs ++ L) (cells + rm.cells) (slots + rm.slots) ∧ Q v T'.heap L ∧ ∀ target, Steps p.tables e below (T'.setTop { g with pc := g.pc + 3, stack := v.toList ++ rest }) target → Steps p.tables e below (T.setTop g) target := by
  obtain ⟨cq, kq, qa, qb, qc⟩ := isOf hZ eT E
  obtain ⟨v, _, ⟨T', L', k', n'⟩, -, X', ⟨Lc, hQ, l1, y1, z1⟩, st⟩ := X.virtualBackUp hx (x := z) (y := y) (owner := owner) hown (mvT hZ w1) (mvT hZ w7) (mvT hZ w5) hy (mvT hZ w6) (mvT hZ w2) (backOf (W := W) hM hZ w4 w3 hf hl) qa qc (g := g) hg hsize (Steps.refl _) (argsL := argsL) (rest := rest) hlen hs hW hd (fun _ _ => ⟨ha, eT, hc, hsl⟩)
  dsimp only [Pt.U, Pt.locs, Pt.cells, Pt.slots] at X' l1 y1 z1 st hQ
  subst l1 y1 z1
  exact ⟨v, T', Lc, X', hQ, fun _ k => st.trans k⟩
end OwnCalls

theorem own_nn (x : Int32) : ¬ ((x &&& (2147483647 : Int32)) < (0 : Int32)) := by
  have h := c_mask x (2147483647 : Int32) 31 (by decide) (by decide)
  have hk : ((2 ^ 31 : Nat) : Int) = 2147483648 := by decide
  rw [hk] at h
  have h0 : (0 : Int32).toInt = 0 := by decide
  rw [Int32.lt_iff_toInt_lt, h0]
  omega
theorem own_nr (x : Int32) : ¬ (((x &&& (2147483647 : Int32)) % (2147483647 : Int32)) < (0 : Int32)) ∧ ¬ ((((x &&& (2147483647 : Int32)) % (2147483647 : Int32)) + (1 : Int32)) < (0 : Int32)) := by
  have h := c_mask x (2147483647 : Int32) 31 (by decide) (by decide)
  have hk : ((2 ^ 31 : Nat) : Int) = 2147483648 := by decide
  rw [hk] at h
  have h0 : (0 : Int32).toInt = 0 := by decide
  have h1 : (1 : Int32).toInt = 1 := by decide
  have h2 := (c_irem (x &&& (2147483647 : Int32)) (2147483647 : Int32) 2147483647 (by decide)).1 (by omega)
  have h3 := c_iadd ((x &&& (2147483647 : Int32)) % (2147483647 : Int32)) (1 : Int32)
  have h4 := rng32 (((x &&& (2147483647 : Int32)) % (2147483647 : Int32)) + (1 : Int32))
  rw [Int32.lt_iff_toInt_lt, Int32.lt_iff_toInt_lt, h0]
  rw [h1] at h3
  constructor <;> omega
theorem pn_0 : plainName "com/example/fill_realm/fillrealm/Summary" = true := by first | (simp [plainName, overriddenIn]; done) | decide +kernel
theorem pn_1 : plainName "java/lang/Enum" = true := by first | (simp [plainName, overriddenIn]; done) | decide +kernel
theorem pn_2 : plainName "com/example/fill_realm/fillrealm/SummaryCountPinLaw" = true := by first | (simp [plainName, overriddenIn]; done) | decide +kernel
theorem pd_0 : parseMethodDescriptor "(III)V" = some ⟨[.int, .int, .int], none⟩ := by decide +kernel
theorem pd_1 : parseMethodDescriptor "()I" = some ⟨[], some .int⟩ := by decide +kernel
theorem pd_2 : parseMethodDescriptor "(Lcom/example/fill_realm/fillrealm/Outcome;)I" = some ⟨[(.object "com/example/fill_realm/fillrealm/Outcome")], some .int⟩ := by decide +kernel
abbrev y_0 : MethodName := ⟨"com/example/fill_realm/fillrealm/Summary", "<init>", "(III)V"⟩
abbrev y_1 : MethodName := ⟨"java/lang/Enum", "ordinal", "()I"⟩
abbrev y_2 : MethodName := ⟨"com/example/fill_realm/fillrealm/Outcome", "ordinal", "()I"⟩
abbrev y_3 : MethodName := ⟨"com/example/fill_realm/fillrealm/Summary", "count", "(Lcom/example/fill_realm/fillrealm/Outcome;)I"⟩
theorem d_prog_13_method_1_0 : decode prog_13_method_1_code 0 = .ok (.aload_n 0, 1) := by decide +kernel
theorem d_prog_13_method_1_1 : decode prog_13_method_1_code 1 = .ok (.invokespecial 1, 3) := by decide +kernel
theorem d_prog_13_method_1_4 : decode prog_13_method_1_code 4 = .ok (.iload_n 1, 1) := by decide +kernel
theorem d_prog_13_method_1_5 : decode prog_13_method_1_code 5 = .ok (.ifCond .lt 11, 3) := by decide +kernel
theorem d_prog_13_method_1_8 : decode prog_13_method_1_code 8 = .ok (.iload_n 2, 1) := by decide +kernel
theorem d_prog_13_method_1_9 : decode prog_13_method_1_code 9 = .ok (.ifCond .lt 7, 3) := by decide +kernel
theorem d_prog_13_method_1_12 : decode prog_13_method_1_code 12 = .ok (.iload_n 3, 1) := by decide +kernel
theorem d_prog_13_method_1_13 : decode prog_13_method_1_code 13 = .ok (.ifCond .ge 19, 3) := by decide +kernel
theorem d_prog_13_method_1_32 : decode prog_13_method_1_code 32 = .ok (.aload_n 0, 1) := by decide +kernel
theorem d_prog_13_method_1_33 : decode prog_13_method_1_code 33 = .ok (.iload_n 1, 1) := by decide +kernel
theorem d_prog_13_method_1_34 : decode prog_13_method_1_code 34 = .ok (.putfield 16, 3) := by decide +kernel
theorem d_prog_13_method_1_37 : decode prog_13_method_1_code 37 = .ok (.aload_n 0, 1) := by decide +kernel
theorem d_prog_13_method_1_38 : decode prog_13_method_1_code 38 = .ok (.iload_n 2, 1) := by decide +kernel
theorem d_prog_13_method_1_39 : decode prog_13_method_1_code 39 = .ok (.putfield 22, 3) := by decide +kernel
theorem d_prog_13_method_1_42 : decode prog_13_method_1_code 42 = .ok (.aload_n 0, 1) := by decide +kernel
theorem d_prog_13_method_1_43 : decode prog_13_method_1_code 43 = .ok (.iload_n 3, 1) := by decide +kernel
theorem d_prog_13_method_1_44 : decode prog_13_method_1_code 44 = .ok (.putfield 25, 3) := by decide +kernel
theorem d_prog_13_method_1_47 : decode prog_13_method_1_code 47 = .ok (.return_, 1) := by decide +kernel
theorem d_prog_13_method_5_0 : decode prog_13_method_5_code 0 = .ok (.getstatic 28, 3) := by decide +kernel
theorem d_prog_13_method_5_3 : decode prog_13_method_5_code 3 = .ok (.aload_n 1, 1) := by decide +kernel
theorem d_prog_13_method_5_4 : decode prog_13_method_5_code 4 = .ok (.invokevirtual 34, 3) := by decide +kernel
theorem d_jdk_37_method_2_0 : decode jdk_37_method_2_code 0 = .ok (.aload_n 0, 1) := by decide +kernel
theorem d_jdk_37_method_2_1 : decode jdk_37_method_2_code 1 = .ok (.getfield 7, 3) := by decide +kernel
theorem d_jdk_37_method_2_4 : decode jdk_37_method_2_code 4 = .ok (.ireturn, 1) := by decide +kernel
theorem d_prog_13_method_5_7 : decode prog_13_method_5_code 7 = .ok (.iaload, 1) := by decide +kernel
theorem d_prog_13_method_5_8 : decode prog_13_method_5_code 8 = .ok (.tableswitch 28 1 3 #[38, 45, 52], 28) := by decide +kernel
theorem d_prog_13_method_5_46 : decode prog_13_method_5_code 46 = .ok (.aload_n 0, 1) := by decide +kernel
theorem d_prog_13_method_5_47 : decode prog_13_method_5_code 47 = .ok (.getfield 16, 3) := by decide +kernel
theorem d_prog_13_method_5_50 : decode prog_13_method_5_code 50 = .ok (.goto 14, 3) := by decide +kernel
theorem d_prog_13_method_5_64 : decode prog_13_method_5_code 64 = .ok (.ireturn, 1) := by decide +kernel
theorem d_prog_13_method_5_53 : decode prog_13_method_5_code 53 = .ok (.aload_n 0, 1) := by decide +kernel
theorem d_prog_13_method_5_54 : decode prog_13_method_5_code 54 = .ok (.getfield 22, 3) := by decide +kernel
theorem d_prog_13_method_5_57 : decode prog_13_method_5_code 57 = .ok (.goto 7, 3) := by decide +kernel
theorem d_prog_13_method_5_60 : decode prog_13_method_5_code 60 = .ok (.aload_n 0, 1) := by decide +kernel
theorem d_prog_13_method_5_61 : decode prog_13_method_5_code 61 = .ok (.getfield 25, 3) := by decide +kernel
theorem ef_prog_13_method_1_RIII (m : MethodId) (x0 : Addr) (x1 : Int32) (x2 : Int32) (x3 : Int32) : entryFrame m #[(.ref x0), (.int x1), (.int x2), (.int x3)] 4 = mkF m 0 #[.val (.ref x0), .val (.int x1), .val (.int x2), .val (.int x3)] [] := by first | (simp [entryFrame, mkF, argsToLocals, Value.category]; done) | rfl
theorem ef_jdk_37_method_2_R (m : MethodId) (x0 : Addr) : entryFrame m #[(.ref x0)] 1 = mkF m 0 #[.val (.ref x0)] [] := by first | (simp [entryFrame, mkF, argsToLocals, Value.category]; done) | rfl
theorem ef_prog_13_method_5_RR (m : MethodId) (x0 : Addr) (x1 : Addr) : entryFrame m #[(.ref x0), (.ref x1)] 2 = mkF m 0 #[.val (.ref x0), .val (.ref x1)] [] := by first | (simp [entryFrame, mkF, argsToLocals, Value.category]; done) | rfl
theorem ef_code_III (m : MethodId) (x0 : Int32) (x1 : Int32) (x2 : Int32) : entryFrame m #[(.int x0), (.int x1), (.int x2)] maxLocals = mkF m 0 #[.val (.int x0), .val (.int x1), .val (.int x2), .unset, .unset, .unset, .unset, .unset, .unset, .unset] [] := by first | (simp [entryFrame, mkF, argsToLocals, Value.category, maxLocals]; done) | rfl
def Qrm5 (Z : State) (b1 : Addr) (x2 : Int32) (x3 : Int32) (x4 : Int32) (h0 : Heap) (v : Option Value) (h : Heap) (L : List Loc) : Prop := v = none ∧ Fr Z.heap.size L ∧ Keep h0 h [b1] ∧ Exa Z h b1 "com/example/fill_realm/fillrealm/Summary" ∧ Fld Z h b1 "com/example/fill_realm/fillrealm/Summary" "created" "I" (.int x2) ∧ Fld Z h b1 "com/example/fill_realm/fillrealm/Summary" "failed" "I" (.int x4) ∧ Fld Z h b1 "com/example/fill_realm/fillrealm/Summary" "skipped" "I" (.int x3)
set_option maxRecDepth 65536 in
set_option maxHeartbeats 40000000 in
theorem rm5 (l : Launch) (Z : State) (a0 : Array Value) (hw : ∀ d ∈ tables_1, d.before a0 Z = true) (ws : List Jvm.Cond) (b1 : Addr) (x2 : Int32) (x3 : Int32) (x4 : Int32) (h0 : Heap) (Z0 : Ext Z.heap h0) (E_b1 : Exa Z h0 b1 "com/example/fill_realm/fillrealm/Summary") (F_b1_created : Fld Z h0 b1 "com/example/fill_realm/fillrealm/Summary" "created" "I" (.int (0 : Int32))) (F_b1_failed : Fld Z h0 b1 "com/example/fill_realm/fillrealm/Summary" "failed" "I" (.int (0 : Int32))) (F_b1_skipped : Fld Z h0 b1 "com/example/fill_realm/fillrealm/Summary" "skipped" "I" (.int (0 : Int32))) (g_b1 : Z.heap.size ≤ b1) (hc1 : ¬ (x2 < (0 : Int32))) (hc2 : ¬ (x3 < (0 : Int32))) (hc3 : ¬ (x4 < (0 : Int32))) :
    own_met l y_0 prog_13_method_1_code 4 none ws ({ frames := 1, cells := 0, slots := 0, locals := 12 } : Room) Z #[(.ref b1), (.int x2), (.int x3), (.int x4)] h0 (Qrm5 Z b1 x2 x3 x4 h0) := by
  refine own_start (plainFor_of_name pn_0) (fun m => ef_prog_13_method_1_RIII m b1 x2 x3 x4) ?_
  intro p e s m below meth c s₁ hx hby hml hown hnm X0 hZ e0 hret hlk
  have N0 := Fr.nil Z.heap.size
  obtain ⟨T6, X6, e6, st6⟩ := initO X0 hx hZ hown (own_w hw 7 rfl) (own_w hw 8 rfl) (own_w hw 9 rfl) e0 (g := (mkF m 1 #[.val (.ref b1), .val (.int x2), .val (.int x3), .val (.int x4)] [(.ref b1)])) rfl (by rw [hml]; rfl) rfl (hb hby d_prog_13_method_1_1) (by decide) (W := 0) (by show 2 * 0 + _ ≤ _; exact Nat.le_of_eq rfl) (by decide)
  obtain ⟨T7, h7, X7, e7, W7, st7⟩ := putF X6 hx hZ hown (host := "") (Or.inl (own_w hw 10 rfl)) Via.refl e6 F_b1_created E_b1 (Or.inr ⟨(own_w hw 11 rfl), rfl, hnm⟩) (own_w hw 2 rfl) (ty := .int) (by decide) rfl rfl (g := (mkF m 34 #[.val (.ref b1), .val (.int x2), .val (.int x3), .val (.int x4)] [(.int x2), (.ref b1)])) rfl rfl (hb hby d_prog_13_method_1_34)
  have K7 : Keep h0 h7 [b1] := (Keep.refl h0 [b1]).wr W7 (Or.inl (List.mem_of_getElem? (i := 0) rfl))
  have XX7 : Ext Z.heap h7 := own_extW Z0 W7 g_b1
  have N7 := Fr.snoc X7 N0 g_b1
  have f8_F_b1_skipped : Fld Z h7 b1 "com/example/fill_realm/fillrealm/Summary" "skipped" "I" (.int (0 : Int32)) := (F_b1_skipped.other W7 (Or.inr (slot_ne (Or.inr (own_w hw 13 rfl)) (Or.inr (own_w hw 11 rfl)) (by decide) (t := .int) (t' := .int) (by decide) (by decide))))
  obtain ⟨T9, h9, X9, e9, W9, st9⟩ := putF X7 hx hZ hown (host := "") (Or.inl (own_w hw 12 rfl)) Via.refl e7 f8_F_b1_skipped (E_b1.wr W7) (Or.inr ⟨(own_w hw 13 rfl), rfl, hnm⟩) (own_w hw 2 rfl) (ty := .int) (by decide) rfl rfl (g := (mkF m 39 #[.val (.ref b1), .val (.int x2), .val (.int x3), .val (.int x4)] [(.int x3), (.ref b1)])) rfl rfl (hb hby d_prog_13_method_1_39)
  have K9 : Keep h0 h9 [b1] := K7.wr W9 (Or.inl (List.mem_of_getElem? (i := 0) rfl))
  have XX9 : Ext Z.heap h9 := own_extW XX7 W9 g_b1
  have N9 := Fr.snoc X9 N7 g_b1
  have f10_F_b1_failed : Fld Z h9 b1 "com/example/fill_realm/fillrealm/Summary" "failed" "I" (.int (0 : Int32)) := ((F_b1_failed.other W7 (Or.inr (slot_ne (Or.inr (own_w hw 15 rfl)) (Or.inr (own_w hw 11 rfl)) (by decide) (t := .int) (t' := .int) (by decide) (by decide)))).other W9 (Or.inr (slot_ne (Or.inr (own_w hw 15 rfl)) (Or.inr (own_w hw 13 rfl)) (by decide) (t := .int) (t' := .int) (by decide) (by decide))))
  obtain ⟨T11, h11, X11, e11, W11, st11⟩ := putF X9 hx hZ hown (host := "") (Or.inl (own_w hw 14 rfl)) Via.refl e9 f10_F_b1_failed ((E_b1.wr W7).wr W9) (Or.inr ⟨(own_w hw 15 rfl), rfl, hnm⟩) (own_w hw 2 rfl) (ty := .int) (by decide) rfl rfl (g := (mkF m 44 #[.val (.ref b1), .val (.int x2), .val (.int x3), .val (.int x4)] [(.int x4), (.ref b1)])) rfl rfl (hb hby d_prog_13_method_1_44)
  have K11 : Keep h0 h11 [b1] := K9.wr W11 (Or.inl (List.mem_of_getElem? (i := 0) rfl))
  have XX11 : Ext Z.heap h11 := own_extW XX9 W11 g_b1
  have N11 := Fr.snoc X11 N9 g_b1
  have f12_F_b1_created : Fld Z h11 b1 "com/example/fill_realm/fillrealm/Summary" "created" "I" (.int x2) := (((F_b1_created.same W7).other W9 (Or.inr (slot_ne (Or.inr (own_w hw 11 rfl)) (Or.inr (own_w hw 13 rfl)) (by decide) (t := .int) (t' := .int) (by decide) (by decide)))).other W11 (Or.inr (slot_ne (Or.inr (own_w hw 11 rfl)) (Or.inr (own_w hw 15 rfl)) (by decide) (t := .int) (t' := .int) (by decide) (by decide))))
  have f13_F_b1_skipped : Fld Z h11 b1 "com/example/fill_realm/fillrealm/Summary" "skipped" "I" (.int x3) := ((f8_F_b1_skipped.same W9).other W11 (Or.inr (slot_ne (Or.inr (own_w hw 13 rfl)) (Or.inr (own_w hw 15 rfl)) (by decide) (t := .int) (t' := .int) (by decide) (by decide))))
  obtain ⟨fs, hr, hrun, hended, hW, hsame⟩ := X11.leave (v := none) (fun _ => rfl) hlk
  refine ⟨_, _, ?_, hrun, hended, _, _, rfl, ?_, ⟨_, rfl⟩, hW, hsame.mono (by decide) (by decide)⟩
  · show own_S p e below s₁ (mkF m 0 #[.val (.ref b1), .val (.int x2), .val (.int x3), .val (.int x4)] []) _
    refine XS.aloadN X0.here hx rfl (hb hby d_prog_13_method_1_0) rfl rfl ?_
    show own_S p e below s₁ (mkF m 1 #[.val (.ref b1), .val (.int x2), .val (.int x3), .val (.int x4)] [(.ref b1)]) _
    refine st6 _ ?_
    show own_S p e below T6 (mkF m 4 #[.val (.ref b1), .val (.int x2), .val (.int x3), .val (.int x4)] []) _
    refine XS.iloadN X6.here hx rfl (hb hby d_prog_13_method_1_4) rfl ?_
    show own_S p e below T6 (mkF m 5 #[.val (.ref b1), .val (.int x2), .val (.int x3), .val (.int x4)] [(.int x2)]) _
    refine XS.ifNo X6.here hx rfl (hb hby d_prog_13_method_1_5) rfl ((if0 _ _).trans (flt hc1).1) ?_
    show own_S p e below T6 (mkF m 8 #[.val (.ref b1), .val (.int x2), .val (.int x3), .val (.int x4)] []) _
    refine XS.iloadN X6.here hx rfl (hb hby d_prog_13_method_1_8) rfl ?_
    show own_S p e below T6 (mkF m 9 #[.val (.ref b1), .val (.int x2), .val (.int x3), .val (.int x4)] [(.int x3)]) _
    refine XS.ifNo X6.here hx rfl (hb hby d_prog_13_method_1_9) rfl ((if0 _ _).trans (flt hc2).1) ?_
    show own_S p e below T6 (mkF m 12 #[.val (.ref b1), .val (.int x2), .val (.int x3), .val (.int x4)] []) _
    refine XS.iloadN X6.here hx rfl (hb hby d_prog_13_method_1_12) rfl ?_
    show own_S p e below T6 (mkF m 13 #[.val (.ref b1), .val (.int x2), .val (.int x3), .val (.int x4)] [(.int x4)]) _
    refine XS.ifYes X6.here hx rfl (pc0 := 13) (pc' := 32) rfl (hb hby d_prog_13_method_1_13) rfl ((if0 _ _).trans (flt hc3).2.1) (by decide) (by decide) ?_
    show own_S p e below T6 (mkF m 32 #[.val (.ref b1), .val (.int x2), .val (.int x3), .val (.int x4)] []) _
    refine XS.aloadN X6.here hx rfl (hb hby d_prog_13_method_1_32) rfl rfl ?_
    show own_S p e below T6 (mkF m 33 #[.val (.ref b1), .val (.int x2), .val (.int x3), .val (.int x4)] [(.ref b1)]) _
    refine XS.iloadN X6.here hx rfl (hb hby d_prog_13_method_1_33) rfl ?_
    show own_S p e below T6 (mkF m 34 #[.val (.ref b1), .val (.int x2), .val (.int x3), .val (.int x4)] [(.int x2), (.ref b1)]) _
    refine st7 _ ?_
    show own_S p e below T7 (mkF m 37 #[.val (.ref b1), .val (.int x2), .val (.int x3), .val (.int x4)] []) _
    refine XS.aloadN X7.here hx rfl (hb hby d_prog_13_method_1_37) rfl rfl ?_
    show own_S p e below T7 (mkF m 38 #[.val (.ref b1), .val (.int x2), .val (.int x3), .val (.int x4)] [(.ref b1)]) _
    refine XS.iloadN X7.here hx rfl (hb hby d_prog_13_method_1_38) rfl ?_
    show own_S p e below T7 (mkF m 39 #[.val (.ref b1), .val (.int x2), .val (.int x3), .val (.int x4)] [(.int x3), (.ref b1)]) _
    refine st9 _ ?_
    show own_S p e below T9 (mkF m 42 #[.val (.ref b1), .val (.int x2), .val (.int x3), .val (.int x4)] []) _
    refine XS.aloadN X9.here hx rfl (hb hby d_prog_13_method_1_42) rfl rfl ?_
    show own_S p e below T9 (mkF m 43 #[.val (.ref b1), .val (.int x2), .val (.int x3), .val (.int x4)] [(.ref b1)]) _
    refine XS.iloadN X9.here hx rfl (hb hby d_prog_13_method_1_43) rfl ?_
    show own_S p e below T9 (mkF m 44 #[.val (.ref b1), .val (.int x2), .val (.int x3), .val (.int x4)] [(.int x4), (.ref b1)]) _
    refine st11 _ ?_
    show own_S p e below T11 (mkF m 47 #[.val (.ref b1), .val (.int x2), .val (.int x3), .val (.int x4)] []) _
    exact X11.returnOut hx hret (hb hby d_prog_13_method_1_47) hr
  · show Qrm5 Z b1 x2 x3 x4 h0 _ T11.heap _
    rw [e11]
    exact ⟨rfl, N11, K11, (((E_b1.wr W7).wr W9).wr W11), f12_F_b1_created, (f10_F_b1_failed.same W11), f13_F_b1_skipped⟩
def Qrm21 (Z : State) (w_CREATED : Addr) (h0 : Heap) (v : Option Value) (h : Heap) (L : List Loc) : Prop := v = some (.int (0 : Int32)) ∧ Fr Z.heap.size L ∧ h = h0
set_option maxRecDepth 65536 in
set_option maxHeartbeats 40000000 in
theorem rm21 (l : Launch) (Z : State) (a0 : Array Value) (hw : ∀ d ∈ tables_1, d.before a0 Z = true) (ws : List Jvm.Cond) (w_CREATED : Addr) (h0 : Heap) (Z0 : Ext Z.heap h0) (F_w_CREATED_ordinal : Fld Z Z.heap w_CREATED "java/lang/Enum" "ordinal" "I" (.int (0 : Int32))) :
    own_met l y_1 jdk_37_method_2_code 1 (some .int) ws ({ frames := 0, cells := 0, slots := 0, locals := 0 } : Room) Z #[(.ref w_CREATED)] h0 (Qrm21 Z w_CREATED h0) := by
  refine own_start (plainFor_of_name pn_1) (fun m => ef_jdk_37_method_2_R m w_CREATED) ?_
  intro p e s m below meth c s₁ hx hby hml hown hnm X0 hZ e0 hret hlk
  have N0 := Fr.nil Z.heap.size
  obtain ⟨T22, X22, e22, st22⟩ := getF X0 hx hZ hown (host := "") (Or.inl (own_w hw 34 rfl)) Via.refl e0 (F_w_CREATED_ordinal.ext Z0) (g := (mkF m 1 #[.val (.ref w_CREATED)] [(.ref w_CREATED)])) rfl rfl (hb hby d_jdk_37_method_2_1)
  obtain ⟨fs, hr, hrun, hended, hW, hsame⟩ := X22.leave (v := some (.int (0 : Int32))) (fun h => by rw [hret] at h; cases h) hlk
  refine ⟨_, _, ?_, hrun, hended, _, _, rfl, ?_, ⟨_, rfl⟩, hW, hsame.mono (by decide) (by decide)⟩
  · show own_S p e below s₁ (mkF m 0 #[.val (.ref w_CREATED)] []) _
    refine XS.aloadN X0.here hx rfl (hb hby d_jdk_37_method_2_0) rfl rfl ?_
    show own_S p e below s₁ (mkF m 1 #[.val (.ref w_CREATED)] [(.ref w_CREATED)]) _
    refine st22 _ ?_
    show own_S p e below T22 (mkF m 4 #[.val (.ref w_CREATED)] [(.int (0 : Int32))]) _
    exact retI X22 hx hret (hb hby d_jdk_37_method_2_4) hr
  · show Qrm21 Z w_CREATED h0 _ T22.heap _
    rw [e22]
    exact ⟨rfl, N0, rfl⟩
def Qrm19 (Z : State) (w_CREATED : Addr) (w__SwitchMap_com_example_fill_realm_fillrealm_Outcome : Addr) (cl_w__SwitchMap_com_example_fill_realm_fillrealm_Outcome : Cell) (b1 : Addr) (x16 : Int32) (h0 : Heap) (v : Option Value) (h : Heap) (L : List Loc) : Prop := v = some (.int x16) ∧ Fr Z.heap.size L ∧ h = h0
set_option maxRecDepth 65536 in
set_option maxHeartbeats 40000000 in
theorem rm19 (l : Launch) (Z : State) (a0 : Array Value) (hw : ∀ d ∈ tables_1, d.before a0 Z = true) (ws : List Jvm.Cond) (w_CREATED : Addr) (w__SwitchMap_com_example_fill_realm_fillrealm_Outcome : Addr) (cl_w__SwitchMap_com_example_fill_realm_fillrealm_Outcome : Cell) (b1 : Addr) (x16 : Int32) (h0 : Heap) (Z0 : Ext Z.heap h0) (S_w__SwitchMap_com_example_fill_realm_fillrealm_Outcome : Sta Z Z.heap "com/example/fill_realm/fillrealm/Summary$1" "$SwitchMap$com$example$fill_realm$fillrealm$Outcome" "[I" (.ref w__SwitchMap_com_example_fill_realm_fillrealm_Outcome)) (E_w_CREATED : Exa Z Z.heap w_CREATED "com/example/fill_realm/fillrealm/Outcome") (F_w_CREATED_ordinal : Fld Z Z.heap w_CREATED "java/lang/Enum" "ordinal" "I" (.int (0 : Int32))) (Ar_w__SwitchMap_com_example_fill_realm_fillrealm_Outcome : Arr Z Z.heap w__SwitchMap_com_example_fill_realm_fillrealm_Outcome cl_w__SwitchMap_com_example_fill_realm_fillrealm_Outcome .int) (hin_w__SwitchMap_com_example_fill_realm_fillrealm_Outcome_0 : ¬ ((0 : Int32) < 0 ∨ cl_w__SwitchMap_com_example_fill_realm_fillrealm_Outcome.slots.size ≤ ((0 : Int32)).toNatClampNeg)) (hat_w__SwitchMap_com_example_fill_realm_fillrealm_Outcome_0 : cl_w__SwitchMap_com_example_fill_realm_fillrealm_Outcome.slots[((0 : Int32)).toNatClampNeg]? = some (.int (1 : Int32))) (F_b1_created : Fld Z h0 b1 "com/example/fill_realm/fillrealm/Summary" "created" "I" (.int x16)) :
    own_met l y_3 prog_13_method_5_code 2 (some .int) ws ({ frames := 1, cells := 0, slots := 0, locals := 13 } : Room) Z #[(.ref b1), (.ref w_CREATED)] h0 (Qrm19 Z w_CREATED w__SwitchMap_com_example_fill_realm_fillrealm_Outcome cl_w__SwitchMap_com_example_fill_realm_fillrealm_Outcome b1 x16 h0) := by
  refine own_start (plainFor_of_name pn_0) (fun m => ef_prog_13_method_5_RR m b1 w_CREATED) ?_
  intro p e s m below meth c s₁ hx hby hml hown hnm X0 hZ e0 hret hlk
  have N0 := Fr.nil Z.heap.size
  obtain ⟨T20, X20, e20, st20⟩ := getS2 X0 hx hZ hown (host := "") (Or.inl (own_w hw 24 rfl)) Via.refl e0 (S_w__SwitchMap_com_example_fill_realm_fillrealm_Outcome.ext Z0) (g := (mkF m 0 #[.val (.ref b1), .val (.ref w_CREATED)] [])) rfl (hb hby d_prog_13_method_5_0)
  obtain ⟨_, T23, Lc23, X23, hQ23, st23⟩ := own_virtualUp (z := y_2) (y := y_1) (owner := "java/lang/Enum") X20 hx hZ hown (own_w hw 27 rfl) (own_w hw 28 rfl) (own_w hw 29 rfl) (own_w hw 31 rfl) (own_w hw 30 rfl) (own_w hw 32 rfl) (own_w hw 33 rfl) (by decide) (rm21 l Z a0 hw [] w_CREATED h0 Z0 F_w_CREATED_ordinal) (by decide) (by decide) e20 (E_w_CREATED.ext Z0) (g := (mkF m 4 #[.val (.ref b1), .val (.ref w_CREATED)] [(.ref w_CREATED), (.ref w__SwitchMap_com_example_fill_realm_fillrealm_Outcome)])) rfl (by rw [hml]; rfl) (argsL := []) (rest := [(.ref w__SwitchMap_com_example_fill_realm_fillrealm_Outcome)]) (lenOf pd_1 rfl) rfl rfl (W := 1) (by show 2 * 0 + _ ≤ _; exact Nat.le_of_eq rfl) (hb hby d_prog_13_method_5_4) (by decide) (by decide)
  obtain ⟨rfl, N23q, e23⟩ := hQ23
  have N23 := Fr.app N0 N23q
  obtain ⟨T24, X24, e24, st24⟩ := getF X23 hx hZ hown (host := "") (Or.inl (own_w hw 10 rfl)) Via.refl e23 F_b1_created (g := (mkF m 47 #[.val (.ref b1), .val (.ref w_CREATED)] [(.ref b1)])) rfl rfl (hb hby d_prog_13_method_5_47)
  obtain ⟨fs, hr, hrun, hended, hW, hsame⟩ := X24.leave (v := some (.int x16)) (fun h => by rw [hret] at h; cases h) hlk
  refine ⟨_, _, ?_, hrun, hended, _, _, rfl, ?_, ⟨_, rfl⟩, hW, hsame.mono (by decide) (by decide)⟩
  · show own_S p e below s₁ (mkF m 0 #[.val (.ref b1), .val (.ref w_CREATED)] []) _
    refine st20 _ ?_
    show own_S p e below T20 (mkF m 3 #[.val (.ref b1), .val (.ref w_CREATED)] [(.ref w__SwitchMap_com_example_fill_realm_fillrealm_Outcome)]) _
    refine XS.aloadN X20.here hx rfl (hb hby d_prog_13_method_5_3) rfl rfl ?_
    show own_S p e below T20 (mkF m 4 #[.val (.ref b1), .val (.ref w_CREATED)] [(.ref w_CREATED), (.ref w__SwitchMap_com_example_fill_realm_fillrealm_Outcome)]) _
    refine st23 _ ?_
    show own_S p e below T23 (mkF m 7 #[.val (.ref b1), .val (.ref w_CREATED)] [(.int (0 : Int32)), (.ref w__SwitchMap_com_example_fill_realm_fillrealm_Outcome)]) _
    refine X23.iaload hx (j := (0 : Int32)) (v := (.int (1 : Int32))) (by rw [e23]; exact (Ar_w__SwitchMap_com_example_fill_realm_fillrealm_Outcome.ext Z0).1) (State.isArrayOf_alike hZ.alike (Ar_w__SwitchMap_com_example_fill_realm_fillrealm_Outcome.ext Z0).2.1) (Ar_w__SwitchMap_com_example_fill_realm_fillrealm_Outcome.ext Z0).2.2 hin_w__SwitchMap_com_example_fill_realm_fillrealm_Outcome_0 hat_w__SwitchMap_com_example_fill_realm_fillrealm_Outcome_0 (g := (mkF m 7 #[.val (.ref b1), .val (.ref w_CREATED)] [(.int (0 : Int32)), (.ref w__SwitchMap_com_example_fill_realm_fillrealm_Outcome)])) rfl rfl (hb hby d_prog_13_method_5_7) _ ?_
    show own_S p e below T23 (mkF m 8 #[.val (.ref b1), .val (.ref w_CREATED)] [(.int (1 : Int32))]) _
    refine XS.tswIn X23.here hx rfl (pc0 := 8) (pc' := 46) (o := 38) rfl (hb hby d_prog_13_method_5_8) rfl (by decide) (by decide) (by decide) (by decide) ?_
    show own_S p e below T23 (mkF m 46 #[.val (.ref b1), .val (.ref w_CREATED)] []) _
    refine XS.aloadN X23.here hx rfl (hb hby d_prog_13_method_5_46) rfl rfl ?_
    show own_S p e below T23 (mkF m 47 #[.val (.ref b1), .val (.ref w_CREATED)] [(.ref b1)]) _
    refine st24 _ ?_
    show own_S p e below T24 (mkF m 50 #[.val (.ref b1), .val (.ref w_CREATED)] [(.int x16)]) _
    refine XS.goto X24.here hx rfl (pc0 := 50) (pc' := 64) rfl (hb hby d_prog_13_method_5_50) (by decide) (by decide) ?_
    show own_S p e below T24 (mkF m 64 #[.val (.ref b1), .val (.ref w_CREATED)] [(.int x16)]) _
    exact retI X24 hx hret (hb hby d_prog_13_method_5_64) hr
  · show Qrm19 Z w_CREATED w__SwitchMap_com_example_fill_realm_fillrealm_Outcome cl_w__SwitchMap_com_example_fill_realm_fillrealm_Outcome b1 x16 h0 _ T24.heap _
    rw [e24]
    exact ⟨rfl, N23, rfl⟩
def Qrm32 (Z : State) (w_SKIPPED : Addr) (h0 : Heap) (v : Option Value) (h : Heap) (L : List Loc) : Prop := v = some (.int (1 : Int32)) ∧ Fr Z.heap.size L ∧ h = h0
set_option maxRecDepth 65536 in
set_option maxHeartbeats 40000000 in
theorem rm32 (l : Launch) (Z : State) (a0 : Array Value) (hw : ∀ d ∈ tables_1, d.before a0 Z = true) (ws : List Jvm.Cond) (w_SKIPPED : Addr) (h0 : Heap) (Z0 : Ext Z.heap h0) (F_w_SKIPPED_ordinal : Fld Z Z.heap w_SKIPPED "java/lang/Enum" "ordinal" "I" (.int (1 : Int32))) :
    own_met l y_1 jdk_37_method_2_code 1 (some .int) ws ({ frames := 0, cells := 0, slots := 0, locals := 0 } : Room) Z #[(.ref w_SKIPPED)] h0 (Qrm32 Z w_SKIPPED h0) := by
  refine own_start (plainFor_of_name pn_1) (fun m => ef_jdk_37_method_2_R m w_SKIPPED) ?_
  intro p e s m below meth c s₁ hx hby hml hown hnm X0 hZ e0 hret hlk
  have N0 := Fr.nil Z.heap.size
  obtain ⟨T33, X33, e33, st33⟩ := getF X0 hx hZ hown (host := "") (Or.inl (own_w hw 34 rfl)) Via.refl e0 (F_w_SKIPPED_ordinal.ext Z0) (g := (mkF m 1 #[.val (.ref w_SKIPPED)] [(.ref w_SKIPPED)])) rfl rfl (hb hby d_jdk_37_method_2_1)
  obtain ⟨fs, hr, hrun, hended, hW, hsame⟩ := X33.leave (v := some (.int (1 : Int32))) (fun h => by rw [hret] at h; cases h) hlk
  refine ⟨_, _, ?_, hrun, hended, _, _, rfl, ?_, ⟨_, rfl⟩, hW, hsame.mono (by decide) (by decide)⟩
  · show own_S p e below s₁ (mkF m 0 #[.val (.ref w_SKIPPED)] []) _
    refine XS.aloadN X0.here hx rfl (hb hby d_jdk_37_method_2_0) rfl rfl ?_
    show own_S p e below s₁ (mkF m 1 #[.val (.ref w_SKIPPED)] [(.ref w_SKIPPED)]) _
    refine st33 _ ?_
    show own_S p e below T33 (mkF m 4 #[.val (.ref w_SKIPPED)] [(.int (1 : Int32))]) _
    exact retI X33 hx hret (hb hby d_jdk_37_method_2_4) hr
  · show Qrm32 Z w_SKIPPED h0 _ T33.heap _
    rw [e33]
    exact ⟨rfl, N0, rfl⟩
def Qrm30 (Z : State) (w__SwitchMap_com_example_fill_realm_fillrealm_Outcome : Addr) (cl_w__SwitchMap_com_example_fill_realm_fillrealm_Outcome : Cell) (w_SKIPPED : Addr) (b1 : Addr) (x28 : Int32) (h0 : Heap) (v : Option Value) (h : Heap) (L : List Loc) : Prop := v = some (.int x28) ∧ Fr Z.heap.size L ∧ h = h0
set_option maxRecDepth 65536 in
set_option maxHeartbeats 40000000 in
theorem rm30 (l : Launch) (Z : State) (a0 : Array Value) (hw : ∀ d ∈ tables_1, d.before a0 Z = true) (ws : List Jvm.Cond) (w__SwitchMap_com_example_fill_realm_fillrealm_Outcome : Addr) (cl_w__SwitchMap_com_example_fill_realm_fillrealm_Outcome : Cell) (w_SKIPPED : Addr) (b1 : Addr) (x28 : Int32) (h0 : Heap) (Z0 : Ext Z.heap h0) (S_w__SwitchMap_com_example_fill_realm_fillrealm_Outcome : Sta Z Z.heap "com/example/fill_realm/fillrealm/Summary$1" "$SwitchMap$com$example$fill_realm$fillrealm$Outcome" "[I" (.ref w__SwitchMap_com_example_fill_realm_fillrealm_Outcome)) (E_w_SKIPPED : Exa Z Z.heap w_SKIPPED "com/example/fill_realm/fillrealm/Outcome") (F_w_SKIPPED_ordinal : Fld Z Z.heap w_SKIPPED "java/lang/Enum" "ordinal" "I" (.int (1 : Int32))) (Ar_w__SwitchMap_com_example_fill_realm_fillrealm_Outcome : Arr Z Z.heap w__SwitchMap_com_example_fill_realm_fillrealm_Outcome cl_w__SwitchMap_com_example_fill_realm_fillrealm_Outcome .int) (hin_w__SwitchMap_com_example_fill_realm_fillrealm_Outcome_1 : ¬ ((1 : Int32) < 0 ∨ cl_w__SwitchMap_com_example_fill_realm_fillrealm_Outcome.slots.size ≤ ((1 : Int32)).toNatClampNeg)) (hat_w__SwitchMap_com_example_fill_realm_fillrealm_Outcome_1 : cl_w__SwitchMap_com_example_fill_realm_fillrealm_Outcome.slots[((1 : Int32)).toNatClampNeg]? = some (.int (2 : Int32))) (F_b1_skipped : Fld Z h0 b1 "com/example/fill_realm/fillrealm/Summary" "skipped" "I" (.int x28)) :
    own_met l y_3 prog_13_method_5_code 2 (some .int) ws ({ frames := 1, cells := 0, slots := 0, locals := 13 } : Room) Z #[(.ref b1), (.ref w_SKIPPED)] h0 (Qrm30 Z w__SwitchMap_com_example_fill_realm_fillrealm_Outcome cl_w__SwitchMap_com_example_fill_realm_fillrealm_Outcome w_SKIPPED b1 x28 h0) := by
  refine own_start (plainFor_of_name pn_0) (fun m => ef_prog_13_method_5_RR m b1 w_SKIPPED) ?_
  intro p e s m below meth c s₁ hx hby hml hown hnm X0 hZ e0 hret hlk
  have N0 := Fr.nil Z.heap.size
  obtain ⟨T31, X31, e31, st31⟩ := getS2 X0 hx hZ hown (host := "") (Or.inl (own_w hw 24 rfl)) Via.refl e0 (S_w__SwitchMap_com_example_fill_realm_fillrealm_Outcome.ext Z0) (g := (mkF m 0 #[.val (.ref b1), .val (.ref w_SKIPPED)] [])) rfl (hb hby d_prog_13_method_5_0)
  obtain ⟨_, T34, Lc34, X34, hQ34, st34⟩ := own_virtualUp (z := y_2) (y := y_1) (owner := "java/lang/Enum") X31 hx hZ hown (own_w hw 27 rfl) (own_w hw 28 rfl) (own_w hw 29 rfl) (own_w hw 31 rfl) (own_w hw 30 rfl) (own_w hw 32 rfl) (own_w hw 33 rfl) (by decide) (rm32 l Z a0 hw [] w_SKIPPED h0 Z0 F_w_SKIPPED_ordinal) (by decide) (by decide) e31 (E_w_SKIPPED.ext Z0) (g := (mkF m 4 #[.val (.ref b1), .val (.ref w_SKIPPED)] [(.ref w_SKIPPED), (.ref w__SwitchMap_com_example_fill_realm_fillrealm_Outcome)])) rfl (by rw [hml]; rfl) (argsL := []) (rest := [(.ref w__SwitchMap_com_example_fill_realm_fillrealm_Outcome)]) (lenOf pd_1 rfl) rfl rfl (W := 1) (by show 2 * 0 + _ ≤ _; exact Nat.le_of_eq rfl) (hb hby d_prog_13_method_5_4) (by decide) (by decide)
  obtain ⟨rfl, N34q, e34⟩ := hQ34
  have N34 := Fr.app N0 N34q
  obtain ⟨T35, X35, e35, st35⟩ := getF X34 hx hZ hown (host := "") (Or.inl (own_w hw 12 rfl)) Via.refl e34 F_b1_skipped (g := (mkF m 54 #[.val (.ref b1), .val (.ref w_SKIPPED)] [(.ref b1)])) rfl rfl (hb hby d_prog_13_method_5_54)
  obtain ⟨fs, hr, hrun, hended, hW, hsame⟩ := X35.leave (v := some (.int x28)) (fun h => by rw [hret] at h; cases h) hlk
  refine ⟨_, _, ?_, hrun, hended, _, _, rfl, ?_, ⟨_, rfl⟩, hW, hsame.mono (by decide) (by decide)⟩
  · show own_S p e below s₁ (mkF m 0 #[.val (.ref b1), .val (.ref w_SKIPPED)] []) _
    refine st31 _ ?_
    show own_S p e below T31 (mkF m 3 #[.val (.ref b1), .val (.ref w_SKIPPED)] [(.ref w__SwitchMap_com_example_fill_realm_fillrealm_Outcome)]) _
    refine XS.aloadN X31.here hx rfl (hb hby d_prog_13_method_5_3) rfl rfl ?_
    show own_S p e below T31 (mkF m 4 #[.val (.ref b1), .val (.ref w_SKIPPED)] [(.ref w_SKIPPED), (.ref w__SwitchMap_com_example_fill_realm_fillrealm_Outcome)]) _
    refine st34 _ ?_
    show own_S p e below T34 (mkF m 7 #[.val (.ref b1), .val (.ref w_SKIPPED)] [(.int (1 : Int32)), (.ref w__SwitchMap_com_example_fill_realm_fillrealm_Outcome)]) _
    refine X34.iaload hx (j := (1 : Int32)) (v := (.int (2 : Int32))) (by rw [e34]; exact (Ar_w__SwitchMap_com_example_fill_realm_fillrealm_Outcome.ext Z0).1) (State.isArrayOf_alike hZ.alike (Ar_w__SwitchMap_com_example_fill_realm_fillrealm_Outcome.ext Z0).2.1) (Ar_w__SwitchMap_com_example_fill_realm_fillrealm_Outcome.ext Z0).2.2 hin_w__SwitchMap_com_example_fill_realm_fillrealm_Outcome_1 hat_w__SwitchMap_com_example_fill_realm_fillrealm_Outcome_1 (g := (mkF m 7 #[.val (.ref b1), .val (.ref w_SKIPPED)] [(.int (1 : Int32)), (.ref w__SwitchMap_com_example_fill_realm_fillrealm_Outcome)])) rfl rfl (hb hby d_prog_13_method_5_7) _ ?_
    show own_S p e below T34 (mkF m 8 #[.val (.ref b1), .val (.ref w_SKIPPED)] [(.int (2 : Int32))]) _
    refine XS.tswIn X34.here hx rfl (pc0 := 8) (pc' := 53) (o := 45) rfl (hb hby d_prog_13_method_5_8) rfl (by decide) (by decide) (by decide) (by decide) ?_
    show own_S p e below T34 (mkF m 53 #[.val (.ref b1), .val (.ref w_SKIPPED)] []) _
    refine XS.aloadN X34.here hx rfl (hb hby d_prog_13_method_5_53) rfl rfl ?_
    show own_S p e below T34 (mkF m 54 #[.val (.ref b1), .val (.ref w_SKIPPED)] [(.ref b1)]) _
    refine st35 _ ?_
    show own_S p e below T35 (mkF m 57 #[.val (.ref b1), .val (.ref w_SKIPPED)] [(.int x28)]) _
    refine XS.goto X35.here hx rfl (pc0 := 57) (pc' := 64) rfl (hb hby d_prog_13_method_5_57) (by decide) (by decide) ?_
    show own_S p e below T35 (mkF m 64 #[.val (.ref b1), .val (.ref w_SKIPPED)] [(.int x28)]) _
    exact retI X35 hx hret (hb hby d_prog_13_method_5_64) hr
  · show Qrm30 Z w__SwitchMap_com_example_fill_realm_fillrealm_Outcome cl_w__SwitchMap_com_example_fill_realm_fillrealm_Outcome w_SKIPPED b1 x28 h0 _ T35.heap _
    rw [e35]
    exact ⟨rfl, N34, rfl⟩
def Qrm43 (Z : State) (w_FAILED : Addr) (h0 : Heap) (v : Option Value) (h : Heap) (L : List Loc) : Prop := v = some (.int (2 : Int32)) ∧ Fr Z.heap.size L ∧ h = h0
set_option maxRecDepth 65536 in
set_option maxHeartbeats 40000000 in
theorem rm43 (l : Launch) (Z : State) (a0 : Array Value) (hw : ∀ d ∈ tables_1, d.before a0 Z = true) (ws : List Jvm.Cond) (w_FAILED : Addr) (h0 : Heap) (Z0 : Ext Z.heap h0) (F_w_FAILED_ordinal : Fld Z Z.heap w_FAILED "java/lang/Enum" "ordinal" "I" (.int (2 : Int32))) :
    own_met l y_1 jdk_37_method_2_code 1 (some .int) ws ({ frames := 0, cells := 0, slots := 0, locals := 0 } : Room) Z #[(.ref w_FAILED)] h0 (Qrm43 Z w_FAILED h0) := by
  refine own_start (plainFor_of_name pn_1) (fun m => ef_jdk_37_method_2_R m w_FAILED) ?_
  intro p e s m below meth c s₁ hx hby hml hown hnm X0 hZ e0 hret hlk
  have N0 := Fr.nil Z.heap.size
  obtain ⟨T44, X44, e44, st44⟩ := getF X0 hx hZ hown (host := "") (Or.inl (own_w hw 34 rfl)) Via.refl e0 (F_w_FAILED_ordinal.ext Z0) (g := (mkF m 1 #[.val (.ref w_FAILED)] [(.ref w_FAILED)])) rfl rfl (hb hby d_jdk_37_method_2_1)
  obtain ⟨fs, hr, hrun, hended, hW, hsame⟩ := X44.leave (v := some (.int (2 : Int32))) (fun h => by rw [hret] at h; cases h) hlk
  refine ⟨_, _, ?_, hrun, hended, _, _, rfl, ?_, ⟨_, rfl⟩, hW, hsame.mono (by decide) (by decide)⟩
  · show own_S p e below s₁ (mkF m 0 #[.val (.ref w_FAILED)] []) _
    refine XS.aloadN X0.here hx rfl (hb hby d_jdk_37_method_2_0) rfl rfl ?_
    show own_S p e below s₁ (mkF m 1 #[.val (.ref w_FAILED)] [(.ref w_FAILED)]) _
    refine st44 _ ?_
    show own_S p e below T44 (mkF m 4 #[.val (.ref w_FAILED)] [(.int (2 : Int32))]) _
    exact retI X44 hx hret (hb hby d_jdk_37_method_2_4) hr
  · show Qrm43 Z w_FAILED h0 _ T44.heap _
    rw [e44]
    exact ⟨rfl, N0, rfl⟩
def Qrm41 (Z : State) (w__SwitchMap_com_example_fill_realm_fillrealm_Outcome : Addr) (cl_w__SwitchMap_com_example_fill_realm_fillrealm_Outcome : Cell) (w_FAILED : Addr) (b1 : Addr) (x40 : Int32) (h0 : Heap) (v : Option Value) (h : Heap) (L : List Loc) : Prop := v = some (.int x40) ∧ Fr Z.heap.size L ∧ h = h0
set_option maxRecDepth 65536 in
set_option maxHeartbeats 40000000 in
theorem rm41 (l : Launch) (Z : State) (a0 : Array Value) (hw : ∀ d ∈ tables_1, d.before a0 Z = true) (ws : List Jvm.Cond) (w__SwitchMap_com_example_fill_realm_fillrealm_Outcome : Addr) (cl_w__SwitchMap_com_example_fill_realm_fillrealm_Outcome : Cell) (w_FAILED : Addr) (b1 : Addr) (x40 : Int32) (h0 : Heap) (Z0 : Ext Z.heap h0) (S_w__SwitchMap_com_example_fill_realm_fillrealm_Outcome : Sta Z Z.heap "com/example/fill_realm/fillrealm/Summary$1" "$SwitchMap$com$example$fill_realm$fillrealm$Outcome" "[I" (.ref w__SwitchMap_com_example_fill_realm_fillrealm_Outcome)) (E_w_FAILED : Exa Z Z.heap w_FAILED "com/example/fill_realm/fillrealm/Outcome") (F_w_FAILED_ordinal : Fld Z Z.heap w_FAILED "java/lang/Enum" "ordinal" "I" (.int (2 : Int32))) (Ar_w__SwitchMap_com_example_fill_realm_fillrealm_Outcome : Arr Z Z.heap w__SwitchMap_com_example_fill_realm_fillrealm_Outcome cl_w__SwitchMap_com_example_fill_realm_fillrealm_Outcome .int) (hin_w__SwitchMap_com_example_fill_realm_fillrealm_Outcome_2 : ¬ ((2 : Int32) < 0 ∨ cl_w__SwitchMap_com_example_fill_realm_fillrealm_Outcome.slots.size ≤ ((2 : Int32)).toNatClampNeg)) (hat_w__SwitchMap_com_example_fill_realm_fillrealm_Outcome_2 : cl_w__SwitchMap_com_example_fill_realm_fillrealm_Outcome.slots[((2 : Int32)).toNatClampNeg]? = some (.int (3 : Int32))) (F_b1_failed : Fld Z h0 b1 "com/example/fill_realm/fillrealm/Summary" "failed" "I" (.int x40)) :
    own_met l y_3 prog_13_method_5_code 2 (some .int) ws ({ frames := 1, cells := 0, slots := 0, locals := 13 } : Room) Z #[(.ref b1), (.ref w_FAILED)] h0 (Qrm41 Z w__SwitchMap_com_example_fill_realm_fillrealm_Outcome cl_w__SwitchMap_com_example_fill_realm_fillrealm_Outcome w_FAILED b1 x40 h0) := by
  refine own_start (plainFor_of_name pn_0) (fun m => ef_prog_13_method_5_RR m b1 w_FAILED) ?_
  intro p e s m below meth c s₁ hx hby hml hown hnm X0 hZ e0 hret hlk
  have N0 := Fr.nil Z.heap.size
  obtain ⟨T42, X42, e42, st42⟩ := getS2 X0 hx hZ hown (host := "") (Or.inl (own_w hw 24 rfl)) Via.refl e0 (S_w__SwitchMap_com_example_fill_realm_fillrealm_Outcome.ext Z0) (g := (mkF m 0 #[.val (.ref b1), .val (.ref w_FAILED)] [])) rfl (hb hby d_prog_13_method_5_0)
  obtain ⟨_, T45, Lc45, X45, hQ45, st45⟩ := own_virtualUp (z := y_2) (y := y_1) (owner := "java/lang/Enum") X42 hx hZ hown (own_w hw 27 rfl) (own_w hw 28 rfl) (own_w hw 29 rfl) (own_w hw 31 rfl) (own_w hw 30 rfl) (own_w hw 32 rfl) (own_w hw 33 rfl) (by decide) (rm43 l Z a0 hw [] w_FAILED h0 Z0 F_w_FAILED_ordinal) (by decide) (by decide) e42 (E_w_FAILED.ext Z0) (g := (mkF m 4 #[.val (.ref b1), .val (.ref w_FAILED)] [(.ref w_FAILED), (.ref w__SwitchMap_com_example_fill_realm_fillrealm_Outcome)])) rfl (by rw [hml]; rfl) (argsL := []) (rest := [(.ref w__SwitchMap_com_example_fill_realm_fillrealm_Outcome)]) (lenOf pd_1 rfl) rfl rfl (W := 1) (by show 2 * 0 + _ ≤ _; exact Nat.le_of_eq rfl) (hb hby d_prog_13_method_5_4) (by decide) (by decide)
  obtain ⟨rfl, N45q, e45⟩ := hQ45
  have N45 := Fr.app N0 N45q
  obtain ⟨T46, X46, e46, st46⟩ := getF X45 hx hZ hown (host := "") (Or.inl (own_w hw 14 rfl)) Via.refl e45 F_b1_failed (g := (mkF m 61 #[.val (.ref b1), .val (.ref w_FAILED)] [(.ref b1)])) rfl rfl (hb hby d_prog_13_method_5_61)
  obtain ⟨fs, hr, hrun, hended, hW, hsame⟩ := X46.leave (v := some (.int x40)) (fun h => by rw [hret] at h; cases h) hlk
  refine ⟨_, _, ?_, hrun, hended, _, _, rfl, ?_, ⟨_, rfl⟩, hW, hsame.mono (by decide) (by decide)⟩
  · show own_S p e below s₁ (mkF m 0 #[.val (.ref b1), .val (.ref w_FAILED)] []) _
    refine st42 _ ?_
    show own_S p e below T42 (mkF m 3 #[.val (.ref b1), .val (.ref w_FAILED)] [(.ref w__SwitchMap_com_example_fill_realm_fillrealm_Outcome)]) _
    refine XS.aloadN X42.here hx rfl (hb hby d_prog_13_method_5_3) rfl rfl ?_
    show own_S p e below T42 (mkF m 4 #[.val (.ref b1), .val (.ref w_FAILED)] [(.ref w_FAILED), (.ref w__SwitchMap_com_example_fill_realm_fillrealm_Outcome)]) _
    refine st45 _ ?_
    show own_S p e below T45 (mkF m 7 #[.val (.ref b1), .val (.ref w_FAILED)] [(.int (2 : Int32)), (.ref w__SwitchMap_com_example_fill_realm_fillrealm_Outcome)]) _
    refine X45.iaload hx (j := (2 : Int32)) (v := (.int (3 : Int32))) (by rw [e45]; exact (Ar_w__SwitchMap_com_example_fill_realm_fillrealm_Outcome.ext Z0).1) (State.isArrayOf_alike hZ.alike (Ar_w__SwitchMap_com_example_fill_realm_fillrealm_Outcome.ext Z0).2.1) (Ar_w__SwitchMap_com_example_fill_realm_fillrealm_Outcome.ext Z0).2.2 hin_w__SwitchMap_com_example_fill_realm_fillrealm_Outcome_2 hat_w__SwitchMap_com_example_fill_realm_fillrealm_Outcome_2 (g := (mkF m 7 #[.val (.ref b1), .val (.ref w_FAILED)] [(.int (2 : Int32)), (.ref w__SwitchMap_com_example_fill_realm_fillrealm_Outcome)])) rfl rfl (hb hby d_prog_13_method_5_7) _ ?_
    show own_S p e below T45 (mkF m 8 #[.val (.ref b1), .val (.ref w_FAILED)] [(.int (3 : Int32))]) _
    refine XS.tswIn X45.here hx rfl (pc0 := 8) (pc' := 60) (o := 52) rfl (hb hby d_prog_13_method_5_8) rfl (by decide) (by decide) (by decide) (by decide) ?_
    show own_S p e below T45 (mkF m 60 #[.val (.ref b1), .val (.ref w_FAILED)] []) _
    refine XS.aloadN X45.here hx rfl (hb hby d_prog_13_method_5_60) rfl rfl ?_
    show own_S p e below T45 (mkF m 61 #[.val (.ref b1), .val (.ref w_FAILED)] [(.ref b1)]) _
    refine st46 _ ?_
    show own_S p e below T46 (mkF m 64 #[.val (.ref b1), .val (.ref w_FAILED)] [(.int x40)]) _
    exact retI X46 hx hret (hb hby d_prog_13_method_5_64) hr
  · show Qrm41 Z w__SwitchMap_com_example_fill_realm_fillrealm_Outcome cl_w__SwitchMap_com_example_fill_realm_fillrealm_Outcome w_FAILED b1 x40 h0 _ T46.heap _
    rw [e46]
    exact ⟨rfl, N45, rfl⟩
def Qrm0 (Z : State) (w_CREATED : Addr) (w__SwitchMap_com_example_fill_realm_fillrealm_Outcome : Addr) (cl_w__SwitchMap_com_example_fill_realm_fillrealm_Outcome : Cell) (w_SKIPPED : Addr) (w_FAILED : Addr) (p1 : Int32) (p2 : Int32) (p3 : Int32) (h0 : Heap) (v : Option Value) (h : Heap) (L : List Loc) : Prop := v = some (.int 1) ∧ Fr Z.heap.size L
set_option maxRecDepth 65536 in
set_option maxHeartbeats 40000000 in
theorem rm0 (l : Launch) (Z : State) (a0 : Array Value) (hw : ∀ d ∈ tables_1, d.before a0 Z = true) (ws : List Jvm.Cond) (w_CREATED : Addr) (w__SwitchMap_com_example_fill_realm_fillrealm_Outcome : Addr) (cl_w__SwitchMap_com_example_fill_realm_fillrealm_Outcome : Cell) (w_SKIPPED : Addr) (w_FAILED : Addr) (p1 : Int32) (p2 : Int32) (p3 : Int32) (h0 : Heap) (Z0 : Ext Z.heap h0) (S_w_CREATED : Sta Z Z.heap "com/example/fill_realm/fillrealm/Outcome" "CREATED" "Lcom/example/fill_realm/fillrealm/Outcome;" (.ref w_CREATED)) (S_w__SwitchMap_com_example_fill_realm_fillrealm_Outcome : Sta Z Z.heap "com/example/fill_realm/fillrealm/Summary$1" "$SwitchMap$com$example$fill_realm$fillrealm$Outcome" "[I" (.ref w__SwitchMap_com_example_fill_realm_fillrealm_Outcome)) (E_w_CREATED : Exa Z Z.heap w_CREATED "com/example/fill_realm/fillrealm/Outcome") (F_w_CREATED_ordinal : Fld Z Z.heap w_CREATED "java/lang/Enum" "ordinal" "I" (.int (0 : Int32))) (Ar_w__SwitchMap_com_example_fill_realm_fillrealm_Outcome : Arr Z Z.heap w__SwitchMap_com_example_fill_realm_fillrealm_Outcome cl_w__SwitchMap_com_example_fill_realm_fillrealm_Outcome .int) (hin_w__SwitchMap_com_example_fill_realm_fillrealm_Outcome_0 : ¬ ((0 : Int32) < 0 ∨ cl_w__SwitchMap_com_example_fill_realm_fillrealm_Outcome.slots.size ≤ ((0 : Int32)).toNatClampNeg)) (hat_w__SwitchMap_com_example_fill_realm_fillrealm_Outcome_0 : cl_w__SwitchMap_com_example_fill_realm_fillrealm_Outcome.slots[((0 : Int32)).toNatClampNeg]? = some (.int (1 : Int32))) (S_w_SKIPPED : Sta Z Z.heap "com/example/fill_realm/fillrealm/Outcome" "SKIPPED" "Lcom/example/fill_realm/fillrealm/Outcome;" (.ref w_SKIPPED)) (E_w_SKIPPED : Exa Z Z.heap w_SKIPPED "com/example/fill_realm/fillrealm/Outcome") (F_w_SKIPPED_ordinal : Fld Z Z.heap w_SKIPPED "java/lang/Enum" "ordinal" "I" (.int (1 : Int32))) (hin_w__SwitchMap_com_example_fill_realm_fillrealm_Outcome_1 : ¬ ((1 : Int32) < 0 ∨ cl_w__SwitchMap_com_example_fill_realm_fillrealm_Outcome.slots.size ≤ ((1 : Int32)).toNatClampNeg)) (hat_w__SwitchMap_com_example_fill_realm_fillrealm_Outcome_1 : cl_w__SwitchMap_com_example_fill_realm_fillrealm_Outcome.slots[((1 : Int32)).toNatClampNeg]? = some (.int (2 : Int32))) (S_w_FAILED : Sta Z Z.heap "com/example/fill_realm/fillrealm/Outcome" "FAILED" "Lcom/example/fill_realm/fillrealm/Outcome;" (.ref w_FAILED)) (E_w_FAILED : Exa Z Z.heap w_FAILED "com/example/fill_realm/fillrealm/Outcome") (F_w_FAILED_ordinal : Fld Z Z.heap w_FAILED "java/lang/Enum" "ordinal" "I" (.int (2 : Int32))) (hin_w__SwitchMap_com_example_fill_realm_fillrealm_Outcome_2 : ¬ ((2 : Int32) < 0 ∨ cl_w__SwitchMap_com_example_fill_realm_fillrealm_Outcome.slots.size ≤ ((2 : Int32)).toNatClampNeg)) (hat_w__SwitchMap_com_example_fill_realm_fillrealm_Outcome_2 : cl_w__SwitchMap_com_example_fill_realm_fillrealm_Outcome.slots[((2 : Int32)).toNatClampNeg]? = some (.int (3 : Int32))) (hc4 : ¬ ((p1 &&& (2147483647 : Int32)) < (0 : Int32))) (hc5 : ¬ ((p2 &&& (2147483647 : Int32)) < (0 : Int32))) (hc6 : ¬ ((p3 &&& (2147483647 : Int32)) < (0 : Int32))) :
    own_met l x code maxLocals ret ws room_1 Z #[(.int p1), (.int p2), (.int p3)] h0 (Qrm0 Z w_CREATED w__SwitchMap_com_example_fill_realm_fillrealm_Outcome cl_w__SwitchMap_com_example_fill_realm_fillrealm_Outcome w_SKIPPED w_FAILED p1 p2 p3 h0) := by
  refine own_start (plainFor_of_name pn_2) (fun m => ef_code_III m p1 p2 p3) ?_
  intro p e s m below meth c s₁ hx hby hml hown hnm X0 hZ e0 hret hlk
  have N0 := Fr.nil Z.heap.size
  obtain ⟨T1, h1, X1, e1, E1, A1, D1, -, st1⟩ := newO X0 hx hZ hown (own_w hw 1 rfl) (own_w hw 2 rfl) (own_w hw 3 rfl) e0 (g := (mkF m 17 #[.val (.int p1), .val (.int p2), .val (.int p3), .val (.int (p1 &&& (2147483647 : Int32))), .val (.int (p2 &&& (2147483647 : Int32))), .val (.int (p3 &&& (2147483647 : Int32))), .unset, .unset, .unset, .unset] [])) rfl (hb hby at_17) (by decide) (by decide)
  obtain ⟨b1, g1⟩ : ∃ z, z = h0.size := ⟨_, rfl⟩
  rw [← g1] at A1 D1 st1
  have g_b1 : Z.heap.size ≤ b1 := Nat.le_trans Z0.1 (Nat.le_of_eq g1.symm)
  have sz_b1 : h0.size ≤ b1 := Nat.le_trans (Keep.refl h0 []).1 (Nat.le_of_eq g1.symm)
  have F_b1_created : Fld Z h1 b1 "com/example/fill_realm/fillrealm/Summary" "created" "I" (.int (0 : Int32)) := D1 (Or.inr (own_w hw 11 rfl)) (ty := .int) (by decide)
  have F_b1_skipped : Fld Z h1 b1 "com/example/fill_realm/fillrealm/Summary" "skipped" "I" (.int (0 : Int32)) := D1 (Or.inr (own_w hw 13 rfl)) (ty := .int) (by decide)
  have F_b1_failed : Fld Z h1 b1 "com/example/fill_realm/fillrealm/Summary" "failed" "I" (.int (0 : Int32)) := D1 (Or.inr (own_w hw 15 rfl)) (ty := .int) (by decide)
  have K1 : Keep h0 h1 [] := (Keep.refl h0 []).ext E1
  have XX1 : Ext Z.heap h1 := own_ext2 Z0 E1
  obtain ⟨_, T14, Lc14, X14, hQ14, st14⟩ := own_special (y := y_0) X1 hx hZ hown rfl (own_w hw 4 rfl) (own_w hw 5 rfl) (own_w hw 3 rfl) (own_w hw 6 rfl) (by decide) (rm5 l Z a0 hw [] b1 (p1 &&& (2147483647 : Int32)) (p2 &&& (2147483647 : Int32)) (p3 &&& (2147483647 : Int32)) h1 XX1 A1 F_b1_created F_b1_failed F_b1_skipped g_b1 hc4 hc5 hc6) (by decide) (by decide) e1 (g := (mkF m 26 #[.val (.int p1), .val (.int p2), .val (.int p3), .val (.int (p1 &&& (2147483647 : Int32))), .val (.int (p2 &&& (2147483647 : Int32))), .val (.int (p3 &&& (2147483647 : Int32))), .unset, .unset, .unset, .unset] [(.int (p3 &&& (2147483647 : Int32))), (.int (p2 &&& (2147483647 : Int32))), (.int (p1 &&& (2147483647 : Int32))), (.ref b1), (.ref b1)])) rfl (by rw [hml]; rfl) b1 (argsL := [(.int (p1 &&& (2147483647 : Int32))), (.int (p2 &&& (2147483647 : Int32))), (.int (p3 &&& (2147483647 : Int32)))]) (rest := [(.ref b1)]) (lenOf pd_0 rfl) rfl rfl (W := 1) (by show 2 * 0 + _ ≤ _; exact Nat.le_of_eq rfl) (hb hby at_26) (by decide) (by decide)
  obtain ⟨rfl, N14q, K14q, q14_E_b1, q14_F_b1_created, q14_F_b1_failed, q14_F_b1_skipped⟩ := hQ14
  have K14 : Keep h0 T14.heap [] := K1.trans K14q (allS (Or.inr sz_b1) all0)
  have XX14 : Ext Z.heap T14.heap := own_extK XX1 K14q (allS g_b1 all0)
  have N14 := Fr.app N0 N14q
  obtain ⟨T15, X15, e15, st15⟩ := getS2 X14 hx hZ hown (host := "") (Or.inl (own_w hw 16 rfl)) Via.refl rfl (S_w_CREATED.ext XX14) (g := (mkF m 33 #[.val (.int p1), .val (.int p2), .val (.int p3), .val (.int (p1 &&& (2147483647 : Int32))), .val (.int (p2 &&& (2147483647 : Int32))), .val (.int (p3 &&& (2147483647 : Int32))), .val (.ref b1), .unset, .unset, .unset] [(.ref b1)])) rfl (hb hby at_33)
  obtain ⟨_, T25, Lc25, X25, hQ25, st25⟩ := own_virtual (y := y_3) X15 hx hZ hown (own_w hw 19 rfl) (own_w hw 20 rfl) (own_w hw 22 rfl) (own_w hw 21 rfl) (own_w hw 3 rfl) (own_w hw 23 rfl) (by decide) (rm19 l Z a0 hw [] w_CREATED w__SwitchMap_com_example_fill_realm_fillrealm_Outcome cl_w__SwitchMap_com_example_fill_realm_fillrealm_Outcome b1 (p1 &&& (2147483647 : Int32)) T14.heap XX14 S_w__SwitchMap_com_example_fill_realm_fillrealm_Outcome E_w_CREATED F_w_CREATED_ordinal Ar_w__SwitchMap_com_example_fill_realm_fillrealm_Outcome hin_w__SwitchMap_com_example_fill_realm_fillrealm_Outcome_0 hat_w__SwitchMap_com_example_fill_realm_fillrealm_Outcome_0 q14_F_b1_created) (by decide) (by decide) e15 q14_E_b1 (g := (mkF m 36 #[.val (.int p1), .val (.int p2), .val (.int p3), .val (.int (p1 &&& (2147483647 : Int32))), .val (.int (p2 &&& (2147483647 : Int32))), .val (.int (p3 &&& (2147483647 : Int32))), .val (.ref b1), .unset, .unset, .unset] [(.ref w_CREATED), (.ref b1)])) rfl (by rw [hml]; rfl) (argsL := [(.ref w_CREATED)]) (rest := []) (lenOf pd_2 rfl) rfl rfl (W := 0) (by show 2 * 0 + _ ≤ _; exact Nat.le_of_eq rfl) (hb hby at_36) (by decide) (by decide)
  obtain ⟨rfl, N25q, e25⟩ := hQ25
  have N25 := Fr.app N14 N25q
  obtain ⟨T26, X26, e26, st26⟩ := getS2 X25 hx hZ hown (host := "") (Or.inl (own_w hw 36 rfl)) Via.refl e25 (S_w_SKIPPED.ext XX14) (g := (mkF m 43 #[.val (.int p1), .val (.int p2), .val (.int p3), .val (.int (p1 &&& (2147483647 : Int32))), .val (.int (p2 &&& (2147483647 : Int32))), .val (.int (p3 &&& (2147483647 : Int32))), .val (.ref b1), .val (.int (p1 &&& (2147483647 : Int32))), .unset, .unset] [(.ref b1)])) rfl (hb hby at_43)
  obtain ⟨_, T36, Lc36, X36, hQ36, st36⟩ := own_virtual (y := y_3) X26 hx hZ hown (own_w hw 19 rfl) (own_w hw 20 rfl) (own_w hw 22 rfl) (own_w hw 21 rfl) (own_w hw 3 rfl) (own_w hw 23 rfl) (by decide) (rm30 l Z a0 hw [] w__SwitchMap_com_example_fill_realm_fillrealm_Outcome cl_w__SwitchMap_com_example_fill_realm_fillrealm_Outcome w_SKIPPED b1 (p2 &&& (2147483647 : Int32)) T14.heap XX14 S_w__SwitchMap_com_example_fill_realm_fillrealm_Outcome E_w_SKIPPED F_w_SKIPPED_ordinal Ar_w__SwitchMap_com_example_fill_realm_fillrealm_Outcome hin_w__SwitchMap_com_example_fill_realm_fillrealm_Outcome_1 hat_w__SwitchMap_com_example_fill_realm_fillrealm_Outcome_1 q14_F_b1_skipped) (by decide) (by decide) e26 q14_E_b1 (g := (mkF m 46 #[.val (.int p1), .val (.int p2), .val (.int p3), .val (.int (p1 &&& (2147483647 : Int32))), .val (.int (p2 &&& (2147483647 : Int32))), .val (.int (p3 &&& (2147483647 : Int32))), .val (.ref b1), .val (.int (p1 &&& (2147483647 : Int32))), .unset, .unset] [(.ref w_SKIPPED), (.ref b1)])) rfl (by rw [hml]; rfl) (argsL := [(.ref w_SKIPPED)]) (rest := []) (lenOf pd_2 rfl) rfl rfl (W := 0) (by show 2 * 0 + _ ≤ _; exact Nat.le_of_eq rfl) (hb hby at_46) (by decide) (by decide)
  obtain ⟨rfl, N36q, e36⟩ := hQ36
  have N36 := Fr.app N25 N36q
  obtain ⟨T37, X37, e37, st37⟩ := getS2 X36 hx hZ hown (host := "") (Or.inl (own_w hw 38 rfl)) Via.refl e36 (S_w_FAILED.ext XX14) (g := (mkF m 53 #[.val (.int p1), .val (.int p2), .val (.int p3), .val (.int (p1 &&& (2147483647 : Int32))), .val (.int (p2 &&& (2147483647 : Int32))), .val (.int (p3 &&& (2147483647 : Int32))), .val (.ref b1), .val (.int (p1 &&& (2147483647 : Int32))), .val (.int (p2 &&& (2147483647 : Int32))), .unset] [(.ref b1)])) rfl (hb hby at_53)
  obtain ⟨_, T47, Lc47, X47, hQ47, st47⟩ := own_virtual (y := y_3) X37 hx hZ hown (own_w hw 19 rfl) (own_w hw 20 rfl) (own_w hw 22 rfl) (own_w hw 21 rfl) (own_w hw 3 rfl) (own_w hw 23 rfl) (by decide) (rm41 l Z a0 hw [] w__SwitchMap_com_example_fill_realm_fillrealm_Outcome cl_w__SwitchMap_com_example_fill_realm_fillrealm_Outcome w_FAILED b1 (p3 &&& (2147483647 : Int32)) T14.heap XX14 S_w__SwitchMap_com_example_fill_realm_fillrealm_Outcome E_w_FAILED F_w_FAILED_ordinal Ar_w__SwitchMap_com_example_fill_realm_fillrealm_Outcome hin_w__SwitchMap_com_example_fill_realm_fillrealm_Outcome_2 hat_w__SwitchMap_com_example_fill_realm_fillrealm_Outcome_2 q14_F_b1_failed) (by decide) (by decide) e37 q14_E_b1 (g := (mkF m 56 #[.val (.int p1), .val (.int p2), .val (.int p3), .val (.int (p1 &&& (2147483647 : Int32))), .val (.int (p2 &&& (2147483647 : Int32))), .val (.int (p3 &&& (2147483647 : Int32))), .val (.ref b1), .val (.int (p1 &&& (2147483647 : Int32))), .val (.int (p2 &&& (2147483647 : Int32))), .unset] [(.ref w_FAILED), (.ref b1)])) rfl (by rw [hml]; rfl) (argsL := [(.ref w_FAILED)]) (rest := []) (lenOf pd_2 rfl) rfl rfl (W := 0) (by show 2 * 0 + _ ≤ _; exact Nat.le_of_eq rfl) (hb hby at_56) (by decide) (by decide)
  obtain ⟨rfl, N47q, e47⟩ := hQ47
  have N47 := Fr.app N36 N47q
  obtain ⟨fs, hr, hrun, hended, hW, hsame⟩ := X47.leave (v := some (.int (1 : Int32))) (fun h => by rw [hret] at h; cases h) hlk
  refine ⟨_, _, ?_, hrun, hended, _, _, rfl, ?_, ⟨_, rfl⟩, hW, hsame.mono (by decide) (by decide)⟩
  · show own_S p e below s₁ (mkF m 0 #[.val (.int p1), .val (.int p2), .val (.int p3), .unset, .unset, .unset, .unset, .unset, .unset, .unset] []) _
    refine XS.iloadN X0.here hx rfl (hb hby at_0) rfl ?_
    show own_S p e below s₁ (mkF m 1 #[.val (.int p1), .val (.int p2), .val (.int p3), .unset, .unset, .unset, .unset, .unset, .unset, .unset] [(.int p1)]) _
    refine X0.ldcInt hx hown (mvT hZ (own_w hw 0 rfl)) (g := (mkF m 1 #[.val (.int p1), .val (.int p2), .val (.int p3), .unset, .unset, .unset, .unset, .unset, .unset, .unset] [(.int p1)])) rfl (hb hby at_1) _ ?_
    show own_S p e below s₁ (mkF m 3 #[.val (.int p1), .val (.int p2), .val (.int p3), .unset, .unset, .unset, .unset, .unset, .unset, .unset] [(.int (2147483647 : Int32)), (.int p1)]) _
    refine XS.iand X0.here hx rfl (hb hby at_3) rfl ?_
    show own_S p e below s₁ (mkF m 4 #[.val (.int p1), .val (.int p2), .val (.int p3), .unset, .unset, .unset, .unset, .unset, .unset, .unset] [(.int (p1 &&& (2147483647 : Int32)))]) _
    refine XS.istoreN X0.here hx rfl (hb hby at_4) rfl (l' := #[.val (.int p1), .val (.int p2), .val (.int p3), .val (.int (p1 &&& (2147483647 : Int32))), .unset, .unset, .unset, .unset, .unset, .unset]) rfl ?_
    show own_S p e below s₁ (mkF m 5 #[.val (.int p1), .val (.int p2), .val (.int p3), .val (.int (p1 &&& (2147483647 : Int32))), .unset, .unset, .unset, .unset, .unset, .unset] []) _
    refine XS.iloadN X0.here hx rfl (hb hby at_5) rfl ?_
    show own_S p e below s₁ (mkF m 6 #[.val (.int p1), .val (.int p2), .val (.int p3), .val (.int (p1 &&& (2147483647 : Int32))), .unset, .unset, .unset, .unset, .unset, .unset] [(.int p2)]) _
    refine X0.ldcInt hx hown (mvT hZ (own_w hw 0 rfl)) (g := (mkF m 6 #[.val (.int p1), .val (.int p2), .val (.int p3), .val (.int (p1 &&& (2147483647 : Int32))), .unset, .unset, .unset, .unset, .unset, .unset] [(.int p2)])) rfl (hb hby at_6) _ ?_
    show own_S p e below s₁ (mkF m 8 #[.val (.int p1), .val (.int p2), .val (.int p3), .val (.int (p1 &&& (2147483647 : Int32))), .unset, .unset, .unset, .unset, .unset, .unset] [(.int (2147483647 : Int32)), (.int p2)]) _
    refine XS.iand X0.here hx rfl (hb hby at_8) rfl ?_
    show own_S p e below s₁ (mkF m 9 #[.val (.int p1), .val (.int p2), .val (.int p3), .val (.int (p1 &&& (2147483647 : Int32))), .unset, .unset, .unset, .unset, .unset, .unset] [(.int (p2 &&& (2147483647 : Int32)))]) _
    refine XS.istore X0.here hx rfl (hb hby at_9) rfl (l' := #[.val (.int p1), .val (.int p2), .val (.int p3), .val (.int (p1 &&& (2147483647 : Int32))), .val (.int (p2 &&& (2147483647 : Int32))), .unset, .unset, .unset, .unset, .unset]) rfl ?_
    show own_S p e below s₁ (mkF m 11 #[.val (.int p1), .val (.int p2), .val (.int p3), .val (.int (p1 &&& (2147483647 : Int32))), .val (.int (p2 &&& (2147483647 : Int32))), .unset, .unset, .unset, .unset, .unset] []) _
    refine XS.iloadN X0.here hx rfl (hb hby at_11) rfl ?_
    show own_S p e below s₁ (mkF m 12 #[.val (.int p1), .val (.int p2), .val (.int p3), .val (.int (p1 &&& (2147483647 : Int32))), .val (.int (p2 &&& (2147483647 : Int32))), .unset, .unset, .unset, .unset, .unset] [(.int p3)]) _
    refine X0.ldcInt hx hown (mvT hZ (own_w hw 0 rfl)) (g := (mkF m 12 #[.val (.int p1), .val (.int p2), .val (.int p3), .val (.int (p1 &&& (2147483647 : Int32))), .val (.int (p2 &&& (2147483647 : Int32))), .unset, .unset, .unset, .unset, .unset] [(.int p3)])) rfl (hb hby at_12) _ ?_
    show own_S p e below s₁ (mkF m 14 #[.val (.int p1), .val (.int p2), .val (.int p3), .val (.int (p1 &&& (2147483647 : Int32))), .val (.int (p2 &&& (2147483647 : Int32))), .unset, .unset, .unset, .unset, .unset] [(.int (2147483647 : Int32)), (.int p3)]) _
    refine XS.iand X0.here hx rfl (hb hby at_14) rfl ?_
    show own_S p e below s₁ (mkF m 15 #[.val (.int p1), .val (.int p2), .val (.int p3), .val (.int (p1 &&& (2147483647 : Int32))), .val (.int (p2 &&& (2147483647 : Int32))), .unset, .unset, .unset, .unset, .unset] [(.int (p3 &&& (2147483647 : Int32)))]) _
    refine XS.istore X0.here hx rfl (hb hby at_15) rfl (l' := #[.val (.int p1), .val (.int p2), .val (.int p3), .val (.int (p1 &&& (2147483647 : Int32))), .val (.int (p2 &&& (2147483647 : Int32))), .val (.int (p3 &&& (2147483647 : Int32))), .unset, .unset, .unset, .unset]) rfl ?_
    show own_S p e below s₁ (mkF m 17 #[.val (.int p1), .val (.int p2), .val (.int p3), .val (.int (p1 &&& (2147483647 : Int32))), .val (.int (p2 &&& (2147483647 : Int32))), .val (.int (p3 &&& (2147483647 : Int32))), .unset, .unset, .unset, .unset] []) _
    refine st1 _ ?_
    show own_S p e below T1 (mkF m 20 #[.val (.int p1), .val (.int p2), .val (.int p3), .val (.int (p1 &&& (2147483647 : Int32))), .val (.int (p2 &&& (2147483647 : Int32))), .val (.int (p3 &&& (2147483647 : Int32))), .unset, .unset, .unset, .unset] [(.ref b1)]) _
    refine XS.dup X1.here hx rfl (hb hby at_20) rfl rfl ?_
    show own_S p e below T1 (mkF m 21 #[.val (.int p1), .val (.int p2), .val (.int p3), .val (.int (p1 &&& (2147483647 : Int32))), .val (.int (p2 &&& (2147483647 : Int32))), .val (.int (p3 &&& (2147483647 : Int32))), .unset, .unset, .unset, .unset] [(.ref b1), (.ref b1)]) _
    refine XS.iloadN X1.here hx rfl (hb hby at_21) rfl ?_
    show own_S p e below T1 (mkF m 22 #[.val (.int p1), .val (.int p2), .val (.int p3), .val (.int (p1 &&& (2147483647 : Int32))), .val (.int (p2 &&& (2147483647 : Int32))), .val (.int (p3 &&& (2147483647 : Int32))), .unset, .unset, .unset, .unset] [(.int (p1 &&& (2147483647 : Int32))), (.ref b1), (.ref b1)]) _
    refine XS.iload X1.here hx rfl (hb hby at_22) rfl ?_
    show own_S p e below T1 (mkF m 24 #[.val (.int p1), .val (.int p2), .val (.int p3), .val (.int (p1 &&& (2147483647 : Int32))), .val (.int (p2 &&& (2147483647 : Int32))), .val (.int (p3 &&& (2147483647 : Int32))), .unset, .unset, .unset, .unset] [(.int (p2 &&& (2147483647 : Int32))), (.int (p1 &&& (2147483647 : Int32))), (.ref b1), (.ref b1)]) _
    refine XS.iload X1.here hx rfl (hb hby at_24) rfl ?_
    show own_S p e below T1 (mkF m 26 #[.val (.int p1), .val (.int p2), .val (.int p3), .val (.int (p1 &&& (2147483647 : Int32))), .val (.int (p2 &&& (2147483647 : Int32))), .val (.int (p3 &&& (2147483647 : Int32))), .unset, .unset, .unset, .unset] [(.int (p3 &&& (2147483647 : Int32))), (.int (p2 &&& (2147483647 : Int32))), (.int (p1 &&& (2147483647 : Int32))), (.ref b1), (.ref b1)]) _
    refine st14 _ ?_
    show own_S p e below T14 (mkF m 29 #[.val (.int p1), .val (.int p2), .val (.int p3), .val (.int (p1 &&& (2147483647 : Int32))), .val (.int (p2 &&& (2147483647 : Int32))), .val (.int (p3 &&& (2147483647 : Int32))), .unset, .unset, .unset, .unset] [(.ref b1)]) _
    refine XS.astore X14.here hx rfl (hb hby at_29) rfl rfl (l' := #[.val (.int p1), .val (.int p2), .val (.int p3), .val (.int (p1 &&& (2147483647 : Int32))), .val (.int (p2 &&& (2147483647 : Int32))), .val (.int (p3 &&& (2147483647 : Int32))), .val (.ref b1), .unset, .unset, .unset]) rfl ?_
    show own_S p e below T14 (mkF m 31 #[.val (.int p1), .val (.int p2), .val (.int p3), .val (.int (p1 &&& (2147483647 : Int32))), .val (.int (p2 &&& (2147483647 : Int32))), .val (.int (p3 &&& (2147483647 : Int32))), .val (.ref b1), .unset, .unset, .unset] []) _
    refine XS.aload X14.here hx rfl (hb hby at_31) rfl rfl ?_
    show own_S p e below T14 (mkF m 33 #[.val (.int p1), .val (.int p2), .val (.int p3), .val (.int (p1 &&& (2147483647 : Int32))), .val (.int (p2 &&& (2147483647 : Int32))), .val (.int (p3 &&& (2147483647 : Int32))), .val (.ref b1), .unset, .unset, .unset] [(.ref b1)]) _
    refine st15 _ ?_
    show own_S p e below T15 (mkF m 36 #[.val (.int p1), .val (.int p2), .val (.int p3), .val (.int (p1 &&& (2147483647 : Int32))), .val (.int (p2 &&& (2147483647 : Int32))), .val (.int (p3 &&& (2147483647 : Int32))), .val (.ref b1), .unset, .unset, .unset] [(.ref w_CREATED), (.ref b1)]) _
    refine st25 _ ?_
    show own_S p e below T25 (mkF m 39 #[.val (.int p1), .val (.int p2), .val (.int p3), .val (.int (p1 &&& (2147483647 : Int32))), .val (.int (p2 &&& (2147483647 : Int32))), .val (.int (p3 &&& (2147483647 : Int32))), .val (.ref b1), .unset, .unset, .unset] [(.int (p1 &&& (2147483647 : Int32)))]) _
    refine XS.istore X25.here hx rfl (hb hby at_39) rfl (l' := #[.val (.int p1), .val (.int p2), .val (.int p3), .val (.int (p1 &&& (2147483647 : Int32))), .val (.int (p2 &&& (2147483647 : Int32))), .val (.int (p3 &&& (2147483647 : Int32))), .val (.ref b1), .val (.int (p1 &&& (2147483647 : Int32))), .unset, .unset]) rfl ?_
    show own_S p e below T25 (mkF m 41 #[.val (.int p1), .val (.int p2), .val (.int p3), .val (.int (p1 &&& (2147483647 : Int32))), .val (.int (p2 &&& (2147483647 : Int32))), .val (.int (p3 &&& (2147483647 : Int32))), .val (.ref b1), .val (.int (p1 &&& (2147483647 : Int32))), .unset, .unset] []) _
    refine XS.aload X25.here hx rfl (hb hby at_41) rfl rfl ?_
    show own_S p e below T25 (mkF m 43 #[.val (.int p1), .val (.int p2), .val (.int p3), .val (.int (p1 &&& (2147483647 : Int32))), .val (.int (p2 &&& (2147483647 : Int32))), .val (.int (p3 &&& (2147483647 : Int32))), .val (.ref b1), .val (.int (p1 &&& (2147483647 : Int32))), .unset, .unset] [(.ref b1)]) _
    refine st26 _ ?_
    show own_S p e below T26 (mkF m 46 #[.val (.int p1), .val (.int p2), .val (.int p3), .val (.int (p1 &&& (2147483647 : Int32))), .val (.int (p2 &&& (2147483647 : Int32))), .val (.int (p3 &&& (2147483647 : Int32))), .val (.ref b1), .val (.int (p1 &&& (2147483647 : Int32))), .unset, .unset] [(.ref w_SKIPPED), (.ref b1)]) _
    refine st36 _ ?_
    show own_S p e below T36 (mkF m 49 #[.val (.int p1), .val (.int p2), .val (.int p3), .val (.int (p1 &&& (2147483647 : Int32))), .val (.int (p2 &&& (2147483647 : Int32))), .val (.int (p3 &&& (2147483647 : Int32))), .val (.ref b1), .val (.int (p1 &&& (2147483647 : Int32))), .unset, .unset] [(.int (p2 &&& (2147483647 : Int32)))]) _
    refine XS.istore X36.here hx rfl (hb hby at_49) rfl (l' := #[.val (.int p1), .val (.int p2), .val (.int p3), .val (.int (p1 &&& (2147483647 : Int32))), .val (.int (p2 &&& (2147483647 : Int32))), .val (.int (p3 &&& (2147483647 : Int32))), .val (.ref b1), .val (.int (p1 &&& (2147483647 : Int32))), .val (.int (p2 &&& (2147483647 : Int32))), .unset]) rfl ?_
    show own_S p e below T36 (mkF m 51 #[.val (.int p1), .val (.int p2), .val (.int p3), .val (.int (p1 &&& (2147483647 : Int32))), .val (.int (p2 &&& (2147483647 : Int32))), .val (.int (p3 &&& (2147483647 : Int32))), .val (.ref b1), .val (.int (p1 &&& (2147483647 : Int32))), .val (.int (p2 &&& (2147483647 : Int32))), .unset] []) _
    refine XS.aload X36.here hx rfl (hb hby at_51) rfl rfl ?_
    show own_S p e below T36 (mkF m 53 #[.val (.int p1), .val (.int p2), .val (.int p3), .val (.int (p1 &&& (2147483647 : Int32))), .val (.int (p2 &&& (2147483647 : Int32))), .val (.int (p3 &&& (2147483647 : Int32))), .val (.ref b1), .val (.int (p1 &&& (2147483647 : Int32))), .val (.int (p2 &&& (2147483647 : Int32))), .unset] [(.ref b1)]) _
    refine st37 _ ?_
    show own_S p e below T37 (mkF m 56 #[.val (.int p1), .val (.int p2), .val (.int p3), .val (.int (p1 &&& (2147483647 : Int32))), .val (.int (p2 &&& (2147483647 : Int32))), .val (.int (p3 &&& (2147483647 : Int32))), .val (.ref b1), .val (.int (p1 &&& (2147483647 : Int32))), .val (.int (p2 &&& (2147483647 : Int32))), .unset] [(.ref w_FAILED), (.ref b1)]) _
    refine st47 _ ?_
    show own_S p e below T47 (mkF m 59 #[.val (.int p1), .val (.int p2), .val (.int p3), .val (.int (p1 &&& (2147483647 : Int32))), .val (.int (p2 &&& (2147483647 : Int32))), .val (.int (p3 &&& (2147483647 : Int32))), .val (.ref b1), .val (.int (p1 &&& (2147483647 : Int32))), .val (.int (p2 &&& (2147483647 : Int32))), .unset] [(.int (p3 &&& (2147483647 : Int32)))]) _
    refine XS.istore X47.here hx rfl (hb hby at_59) rfl (l' := #[.val (.int p1), .val (.int p2), .val (.int p3), .val (.int (p1 &&& (2147483647 : Int32))), .val (.int (p2 &&& (2147483647 : Int32))), .val (.int (p3 &&& (2147483647 : Int32))), .val (.ref b1), .val (.int (p1 &&& (2147483647 : Int32))), .val (.int (p2 &&& (2147483647 : Int32))), .val (.int (p3 &&& (2147483647 : Int32)))]) rfl ?_
    show own_S p e below T47 (mkF m 61 #[.val (.int p1), .val (.int p2), .val (.int p3), .val (.int (p1 &&& (2147483647 : Int32))), .val (.int (p2 &&& (2147483647 : Int32))), .val (.int (p3 &&& (2147483647 : Int32))), .val (.ref b1), .val (.int (p1 &&& (2147483647 : Int32))), .val (.int (p2 &&& (2147483647 : Int32))), .val (.int (p3 &&& (2147483647 : Int32)))] []) _
    refine XS.iload X47.here hx rfl (hb hby at_61) rfl ?_
    show own_S p e below T47 (mkF m 63 #[.val (.int p1), .val (.int p2), .val (.int p3), .val (.int (p1 &&& (2147483647 : Int32))), .val (.int (p2 &&& (2147483647 : Int32))), .val (.int (p3 &&& (2147483647 : Int32))), .val (.ref b1), .val (.int (p1 &&& (2147483647 : Int32))), .val (.int (p2 &&& (2147483647 : Int32))), .val (.int (p3 &&& (2147483647 : Int32)))] [(.int (p1 &&& (2147483647 : Int32)))]) _
    refine XS.iloadN X47.here hx rfl (hb hby at_63) rfl ?_
    show own_S p e below T47 (mkF m 64 #[.val (.int p1), .val (.int p2), .val (.int p3), .val (.int (p1 &&& (2147483647 : Int32))), .val (.int (p2 &&& (2147483647 : Int32))), .val (.int (p3 &&& (2147483647 : Int32))), .val (.ref b1), .val (.int (p1 &&& (2147483647 : Int32))), .val (.int (p2 &&& (2147483647 : Int32))), .val (.int (p3 &&& (2147483647 : Int32)))] [(.int (p1 &&& (2147483647 : Int32))), (.int (p1 &&& (2147483647 : Int32)))]) _
    refine XS.icmpNo X47.here hx rfl (hb hby at_64) rfl (teq (rfl : (p1 &&& (2147483647 : Int32)) = (p1 &&& (2147483647 : Int32)))).2 ?_
    show own_S p e below T47 (mkF m 67 #[.val (.int p1), .val (.int p2), .val (.int p3), .val (.int (p1 &&& (2147483647 : Int32))), .val (.int (p2 &&& (2147483647 : Int32))), .val (.int (p3 &&& (2147483647 : Int32))), .val (.ref b1), .val (.int (p1 &&& (2147483647 : Int32))), .val (.int (p2 &&& (2147483647 : Int32))), .val (.int (p3 &&& (2147483647 : Int32)))] []) _
    refine XS.iload X47.here hx rfl (hb hby at_67) rfl ?_
    show own_S p e below T47 (mkF m 69 #[.val (.int p1), .val (.int p2), .val (.int p3), .val (.int (p1 &&& (2147483647 : Int32))), .val (.int (p2 &&& (2147483647 : Int32))), .val (.int (p3 &&& (2147483647 : Int32))), .val (.ref b1), .val (.int (p1 &&& (2147483647 : Int32))), .val (.int (p2 &&& (2147483647 : Int32))), .val (.int (p3 &&& (2147483647 : Int32)))] [(.int (p2 &&& (2147483647 : Int32)))]) _
    refine XS.iload X47.here hx rfl (hb hby at_69) rfl ?_
    show own_S p e below T47 (mkF m 71 #[.val (.int p1), .val (.int p2), .val (.int p3), .val (.int (p1 &&& (2147483647 : Int32))), .val (.int (p2 &&& (2147483647 : Int32))), .val (.int (p3 &&& (2147483647 : Int32))), .val (.ref b1), .val (.int (p1 &&& (2147483647 : Int32))), .val (.int (p2 &&& (2147483647 : Int32))), .val (.int (p3 &&& (2147483647 : Int32)))] [(.int (p2 &&& (2147483647 : Int32))), (.int (p2 &&& (2147483647 : Int32)))]) _
    refine XS.icmpNo X47.here hx rfl (hb hby at_71) rfl (teq (rfl : (p2 &&& (2147483647 : Int32)) = (p2 &&& (2147483647 : Int32)))).2 ?_
    show own_S p e below T47 (mkF m 74 #[.val (.int p1), .val (.int p2), .val (.int p3), .val (.int (p1 &&& (2147483647 : Int32))), .val (.int (p2 &&& (2147483647 : Int32))), .val (.int (p3 &&& (2147483647 : Int32))), .val (.ref b1), .val (.int (p1 &&& (2147483647 : Int32))), .val (.int (p2 &&& (2147483647 : Int32))), .val (.int (p3 &&& (2147483647 : Int32)))] []) _
    refine XS.iload X47.here hx rfl (hb hby at_74) rfl ?_
    show own_S p e below T47 (mkF m 76 #[.val (.int p1), .val (.int p2), .val (.int p3), .val (.int (p1 &&& (2147483647 : Int32))), .val (.int (p2 &&& (2147483647 : Int32))), .val (.int (p3 &&& (2147483647 : Int32))), .val (.ref b1), .val (.int (p1 &&& (2147483647 : Int32))), .val (.int (p2 &&& (2147483647 : Int32))), .val (.int (p3 &&& (2147483647 : Int32)))] [(.int (p3 &&& (2147483647 : Int32)))]) _
    refine XS.iload X47.here hx rfl (hb hby at_76) rfl ?_
    show own_S p e below T47 (mkF m 78 #[.val (.int p1), .val (.int p2), .val (.int p3), .val (.int (p1 &&& (2147483647 : Int32))), .val (.int (p2 &&& (2147483647 : Int32))), .val (.int (p3 &&& (2147483647 : Int32))), .val (.ref b1), .val (.int (p1 &&& (2147483647 : Int32))), .val (.int (p2 &&& (2147483647 : Int32))), .val (.int (p3 &&& (2147483647 : Int32)))] [(.int (p3 &&& (2147483647 : Int32))), (.int (p3 &&& (2147483647 : Int32)))]) _
    refine XS.icmpNo X47.here hx rfl (hb hby at_78) rfl (teq (rfl : (p3 &&& (2147483647 : Int32)) = (p3 &&& (2147483647 : Int32)))).2 ?_
    show own_S p e below T47 (mkF m 81 #[.val (.int p1), .val (.int p2), .val (.int p3), .val (.int (p1 &&& (2147483647 : Int32))), .val (.int (p2 &&& (2147483647 : Int32))), .val (.int (p3 &&& (2147483647 : Int32))), .val (.ref b1), .val (.int (p1 &&& (2147483647 : Int32))), .val (.int (p2 &&& (2147483647 : Int32))), .val (.int (p3 &&& (2147483647 : Int32)))] []) _
    refine XS.iconst X47.here hx rfl (hb hby at_81) ?_
    show own_S p e below T47 (mkF m 82 #[.val (.int p1), .val (.int p2), .val (.int p3), .val (.int (p1 &&& (2147483647 : Int32))), .val (.int (p2 &&& (2147483647 : Int32))), .val (.int (p3 &&& (2147483647 : Int32))), .val (.ref b1), .val (.int (p1 &&& (2147483647 : Int32))), .val (.int (p2 &&& (2147483647 : Int32))), .val (.int (p3 &&& (2147483647 : Int32)))] [(.int (1 : Int32))]) _
    refine XS.goto X47.here hx rfl (pc0 := 82) (pc' := 86) rfl (hb hby at_82) (by decide) (by decide) ?_
    show own_S p e below T47 (mkF m 86 #[.val (.int p1), .val (.int p2), .val (.int p3), .val (.int (p1 &&& (2147483647 : Int32))), .val (.int (p2 &&& (2147483647 : Int32))), .val (.int (p3 &&& (2147483647 : Int32))), .val (.ref b1), .val (.int (p1 &&& (2147483647 : Int32))), .val (.int (p2 &&& (2147483647 : Int32))), .val (.int (p3 &&& (2147483647 : Int32)))] [(.int (1 : Int32))]) _
    exact retN X47 hx (t := .boolean) hret (by simp) (hb hby at_86) hr
  · show Qrm0 Z w_CREATED w__SwitchMap_com_example_fill_realm_fillrealm_Outcome cl_w__SwitchMap_com_example_fill_realm_fillrealm_Outcome w_SKIPPED w_FAILED p1 p2 p3 h0 _ T47.heap _
    exact ⟨rfl, N47⟩
set_option maxRecDepth 65536 in
set_option maxHeartbeats 40000000 in
theorem comes_1 {Post : Tables → Env → Array Value → State → Outcome → State → Prop} (hpost : ∀ tb e args s v u, (limb_1_1.after args s (.returned v) u = true ∧ limb_1_2.after args s (.returned v) u = true ∧ True) → FrameEnd s (.returned v) u (Jvm.fieldLocs frame_1_writes args s ++ Jvm.arrayLocs frame_1_arrays args s ++ Jvm.staticLocs frame_1_statics s) 16 128 → Post tb e args s (.returned v) u) :
    ArmFor flags0 classFile x code maxLocals ret World_1 tables_1 room_1 Calls_1 rest_1 Pre_1 Post := by
  intro l hfl _ _ p e ha hc hk s m args below hf hA hF happ hP
  obtain ⟨hcalls, hrest, hpre⟩ := hP
  obtain ⟨-, -, -, hnamed, -, -, -, hat⟩ := (Spec.applies_iff hf).mp happ
  obtain ⟨hg, hn⟩ := and_e (Cond.before_iff.mp (show (Jvm.Cond.and given_1 narrow_1).before args s = true from hpre))
  obtain ⟨hcount, hG0⟩ := and_e hg
  obtain ⟨hA0, hG1⟩ := and_e hG0
  obtain ⟨hA1, hG2⟩ := and_e hG1
  have hA2 := hG2
  obtain ⟨v0, v1, v2, rfl⟩ : ∃ v0 v1 v2 : Value, args = #[v0, v1, v2] := by
    have hs : args.size = 3 := by simpa [Cond.value, given_1] using hcount
    obtain ⟨L⟩ := args
    match L, hs with
    | [v0, v1, v2], _ => exact ⟨v0, v1, v2, rfl⟩
  have hw := fun d (hd : d ∈ tables_1) => atoms_spec (ws := Jvm.Cond.code x code maxLocals ret :: tables_1) hat d (List.mem_cons_of_mem _ hd)
  obtain ⟨p1, ei0⟩ := is_v hA0
  obtain rfl : v0 = (.int p1) := Option.some.inj ei0
  obtain ⟨p2, ei1⟩ := is_v hA1
  obtain rfl : v1 = (.int p2) := Option.some.inj ei1
  obtain ⟨p3, ei2⟩ := is_v hA2
  obtain rfl : v2 = (.int p3) := Option.some.inj ei2
  obtain ⟨hN0, hR0⟩ := and_e hn
  obtain ⟨hN1, hR1⟩ := and_e hR0
  obtain ⟨hN2, hR2⟩ := and_e hR1
  obtain ⟨hN3, hR3⟩ := and_e hR2
  obtain ⟨hN4, hR4⟩ := and_e hR3
  obtain ⟨hN5, hR5⟩ := and_e hR4
  obtain ⟨hN6, hR6⟩ := and_e hR5
  obtain ⟨hN7, hR7⟩ := and_e hR6
  obtain ⟨hN8, hR8⟩ := and_e hR7
  obtain ⟨hN9, hR9⟩ := and_e hR8
  have hN10 := hR9
  obtain ⟨w_CREATED, ev_w_CREATED⟩ := exa_v hN0
  have E_w_CREATED : Exa s s.heap w_CREATED "com/example/fill_realm/fillrealm/Outcome" := Exa.start ev_w_CREATED hN0
  have S_w_CREATED : Sta s s.heap "com/example/fill_realm/fillrealm/Outcome" "CREATED" "Lcom/example/fill_realm/fillrealm/Outcome;" (.ref w_CREATED) := Sta.start ev_w_CREATED (Or.inr ⟨(own_w hw 17 rfl), (own_w hw 18 rfl)⟩)
  obtain ⟨w__SwitchMap_com_example_fill_realm_fillrealm_Outcome, ev_w__SwitchMap_com_example_fill_realm_fillrealm_Outcome⟩ := arr_v hN1
  obtain ⟨cl_w__SwitchMap_com_example_fill_realm_fillrealm_Outcome, Ar_w__SwitchMap_com_example_fill_realm_fillrealm_Outcome⟩ := Arr.start ev_w__SwitchMap_com_example_fill_realm_fillrealm_Outcome hN1
  have S_w__SwitchMap_com_example_fill_realm_fillrealm_Outcome : Sta s s.heap "com/example/fill_realm/fillrealm/Summary$1" "$SwitchMap$com$example$fill_realm$fillrealm$Outcome" "[I" (.ref w__SwitchMap_com_example_fill_realm_fillrealm_Outcome) := Sta.start ev_w__SwitchMap_com_example_fill_realm_fillrealm_Outcome (Or.inr ⟨(own_w hw 25 rfl), (own_w hw 26 rfl)⟩)
  obtain ⟨w_SKIPPED, ev_w_SKIPPED⟩ := exa_v hN5
  have E_w_SKIPPED : Exa s s.heap w_SKIPPED "com/example/fill_realm/fillrealm/Outcome" := Exa.start ev_w_SKIPPED hN5
  have S_w_SKIPPED : Sta s s.heap "com/example/fill_realm/fillrealm/Outcome" "SKIPPED" "Lcom/example/fill_realm/fillrealm/Outcome;" (.ref w_SKIPPED) := Sta.start ev_w_SKIPPED (Or.inr ⟨(own_w hw 17 rfl), (own_w hw 37 rfl)⟩)
  obtain ⟨w_FAILED, ev_w_FAILED⟩ := exa_v hN8
  have E_w_FAILED : Exa s s.heap w_FAILED "com/example/fill_realm/fillrealm/Outcome" := Exa.start ev_w_FAILED hN8
  have S_w_FAILED : Sta s s.heap "com/example/fill_realm/fillrealm/Outcome" "FAILED" "Lcom/example/fill_realm/fillrealm/Outcome;" (.ref w_FAILED) := Sta.start ev_w_FAILED (Or.inr ⟨(own_w hw 17 rfl), (own_w hw 39 rfl)⟩)
  have Sz_w__SwitchMap_com_example_fill_realm_fillrealm_Outcome : cl_w__SwitchMap_com_example_fill_realm_fillrealm_Outcome.slots.size = (3 : Int32).toNatClampNeg := own_len ev_w__SwitchMap_com_example_fill_realm_fillrealm_Outcome Ar_w__SwitchMap_com_example_fill_realm_fillrealm_Outcome (own_eqI hN2) (by decide)
  have F_w_CREATED_ordinal : Fld s s.heap w_CREATED "java/lang/Enum" "ordinal" "I" (.int (0 : Int32)) := Fld.start ((fld_at ev_w_CREATED).symm.trans (own_eqI hN3))
  obtain ⟨hin_w__SwitchMap_com_example_fill_realm_fillrealm_Outcome_0, hat_w__SwitchMap_com_example_fill_realm_fillrealm_Outcome_0⟩ := elem_in (own_eqI hN4) ev_w__SwitchMap_com_example_fill_realm_fillrealm_Outcome (Term.int_eval (0 : Int32)) Ar_w__SwitchMap_com_example_fill_realm_fillrealm_Outcome.1
  have F_w_SKIPPED_ordinal : Fld s s.heap w_SKIPPED "java/lang/Enum" "ordinal" "I" (.int (1 : Int32)) := Fld.start ((fld_at ev_w_SKIPPED).symm.trans (own_eqI hN6))
  obtain ⟨hin_w__SwitchMap_com_example_fill_realm_fillrealm_Outcome_1, hat_w__SwitchMap_com_example_fill_realm_fillrealm_Outcome_1⟩ := elem_in (own_eqI hN7) ev_w__SwitchMap_com_example_fill_realm_fillrealm_Outcome (Term.int_eval (1 : Int32)) Ar_w__SwitchMap_com_example_fill_realm_fillrealm_Outcome.1
  have F_w_FAILED_ordinal : Fld s s.heap w_FAILED "java/lang/Enum" "ordinal" "I" (.int (2 : Int32)) := Fld.start ((fld_at ev_w_FAILED).symm.trans (own_eqI hN9))
  obtain ⟨hin_w__SwitchMap_com_example_fill_realm_fillrealm_Outcome_2, hat_w__SwitchMap_com_example_fill_realm_fillrealm_Outcome_2⟩ := elem_in (own_eqI hN10) ev_w__SwitchMap_com_example_fill_realm_fillrealm_Outcome (Term.int_eval (2 : Int32)) Ar_w__SwitchMap_com_example_fill_realm_fillrealm_Outcome.1
  have hX0 : Ext s.heap s.heap := ⟨Nat.le_refl _, fun _ _ q => q⟩
  have key : MetFree l x (head1 (Jvm.Cond.code x code maxLocals ret :: tables_1) room_1) (fun a U => a = #[(.int p1), (.int p2), (.int p3)] ∧ s.Warmed39 U.vm ∧ U.heap = s.heap) (fun _ _ _ _ _ => True) (fun _ U o U' => ∃ v L, o = .returned v ∧ (v = some (.int 1) ∧ Fr s.heap.size L) ∧ FrameEnd U o U' L room_1.cells room_1.slots) := by
    exact rm0 l s _ hw tables_1 w_CREATED w__SwitchMap_com_example_fill_realm_fillrealm_Outcome cl_w__SwitchMap_com_example_fill_realm_fillrealm_Outcome w_SKIPPED w_FAILED p1 p2 p3 s.heap hX0 S_w_CREATED S_w__SwitchMap_com_example_fill_realm_fillrealm_Outcome E_w_CREATED F_w_CREATED_ordinal Ar_w__SwitchMap_com_example_fill_realm_fillrealm_Outcome hin_w__SwitchMap_com_example_fill_realm_fillrealm_Outcome_0 hat_w__SwitchMap_com_example_fill_realm_fillrealm_Outcome_0 S_w_SKIPPED E_w_SKIPPED F_w_SKIPPED_ordinal hin_w__SwitchMap_com_example_fill_realm_fillrealm_Outcome_1 hat_w__SwitchMap_com_example_fill_realm_fillrealm_Outcome_1 S_w_FAILED E_w_FAILED F_w_FAILED_ordinal hin_w__SwitchMap_com_example_fill_realm_fillrealm_Outcome_2 hat_w__SwitchMap_com_example_fill_realm_fillrealm_Outcome_2 (own_nn p1) (own_nn p2) (own_nn p3)
  obtain ⟨n, o, h1, h2, h3, _, L, rfl, ⟨rfl, N⟩, hq⟩ := key p e ha hc hk s m _ below hf ((Spec.applies_iff_loose hf).mp happ).1 ⟨rfl, State.Warmed39.refl s, rfl⟩ trivial
  refine ⟨n, _, h1, h2, h3, hpost _ _ _ _ _ _ ⟨Cond.after_iff.mpr rfl, Cond.after_iff.mpr (eq_i res_at (Term.int_eval (1)) rfl), trivial⟩ ⟨hq.1, hq.2.1, (hq.2.2.sift fun y hy => Or.inr (N y hy)).mono (by decide) (by decide)⟩⟩
theorem main_1_1 : Claimed_1_1 := comes_1 fun _ _ _ _ _ _ h hF => ⟨h.1, hF⟩
theorem main_1_2 : Claimed_1_2 := comes_1 fun _ _ _ _ _ _ h hF => ⟨h.2.1, hF⟩
end Jvm.Pilot.@@N@@
namespace Jvm.Pilot.@@N@@
open Jvm Jvm.ClassFile Sem Op Lib Jvm.Free Jvm.Stand Jvm.Pilot.@@N@@.Jvm.D
/-! MADE BY PROGRAM (witnessworld.py) out of the Statement's table words and the real class files: 14 classes; the members and pool entries that the words name. The judged class is class 1, her method 1. -/
namespace start1
open Jvm.ClassFile
def u (s : String) : CpInfo := .utf8 (stringToUtf16 s)
/-- a pool by its gaps: so many unusable entries, then the entry; so many at the end -/
def gap : Nat → List CpInfo → List CpInfo
  | 0, r => r
  | n + 1, r => .unusable :: gap n r
def poolList (es : List (Nat × CpInfo)) (last : Nat) : List CpInfo := es.foldr (fun e r => gap e.1 (e.2 :: r)) (gap last [])
def pool (es : List (Nat × CpInfo)) (last : Nat) : Array CpInfo := ⟨poolList es last⟩
def fileOf (pool : Array CpInfo) (this : Nat) (attrs : Array Attribute := #[]) (ms : Array MethodInfo := #[]) (fl : Nat := 33) (sup : Nat := 0) (ifs : Array Nat := #[]) (fds : Array FieldInfo := #[]) : ClassFile where
  minorVersion := 0
  majorVersion := 65
  constantPool := pool
  accessFlags := fl
  thisClass := this
  superClass := sup
  interfaces := ifs
  fields := fds
  methods := ms
  attributes := attrs
def plain (name : String) (sup : Option ClassId) : Class where
  name := name
  kind := .ordinary
  loader := none
  accessFlags := 33
  super := sup
  interfaces := #[]
  cf := none
  fields := #[]
  methods := #[]
  instanceTypes := #[]
  staticTypes := #[]
  resolved := #[]
  callSites := []
  init := .initialized
  statics := none
  mirror := none

def pool0 : Array CpInfo := pool [(5, u "<init>"), (0, u "()V"), (1, .class_ 10), (1, u "java/lang/Object")] 113

def k0c0 : Code := { maxStack := 0, maxLocals := 1, code := object_method_1_code, exceptionTable := #[], attributes := #[] }
def k0m0 : Method := { name := "<init>", desc := "()V", sig := { parameters := [], returnType := none }, accessFlags := 1, code := some k0c0 }
/-- java/lang/Object -/
def k0 : Class := { plain "java/lang/Object" none with
  accessFlags := 33
  interfaces := #[]
  cf := some (fileOf pool0 8 #[] #[{ accessFlags := 1, nameIndex := 5, descriptorIndex := 6, attributes := #[] }] 33 0 #[] #[])
  fields := #[]
  methods := #[k0m0]
  instanceTypes := #[]
  staticTypes := #[]
  resolved := Array.replicate 124 none
  statics := none }

def pool1 : Array CpInfo := pool [(2, .class_ 4), (1, u "java/lang/Object"), (0, u "<init>"), (0, u "()V"), (0, .integer 2147483647), (0, .class_ 9), (0, u "com/example/fill_realm/fillrealm/Summary"), (0, .methodref 8 11), (0, .nameAndType 5 12), (0, u "(III)V"), (0, .fieldref 14 15), (0, .class_ 16), (0, .nameAndType 17 18), (0, u "com/example/fill_realm/fillrealm/Outcome"), (0, u "CREATED"), (0, u "Lcom/example/fill_realm/fillrealm/Outcome;"), (0, .methodref 8 20), (0, .nameAndType 21 22), (0, u "count"), (0, u "(Lcom/example/fill_realm/fillrealm/Outcome;)I"), (0, .fieldref 14 24), (0, .nameAndType 25 18), (0, u "SKIPPED"), (0, .fieldref 14 27), (0, .nameAndType 28 18), (0, u "FAILED"), (0, .class_ 30), (0, u "com/example/fill_realm/fillrealm/SummaryCountPinLaw"), (2, u "law"), (0, u "(III)Z")] 3

def k1m0 : Method := { name := "<init>", desc := "()V", sig := { parameters := [], returnType := none }, accessFlags := 2, code := none }
def k1c1 : Code := { maxStack := 5, maxLocals := 10, code := code, exceptionTable := #[], attributes := #[] }
def k1m1 : Method := { name := "law", desc := "(III)Z", sig := { parameters := [.int, .int, .int], returnType := some .boolean }, accessFlags := 9, code := some k1c1 }
/-- com/example/fill_realm/fillrealm/SummaryCountPinLaw -/
def k1 : Class := { plain "com/example/fill_realm/fillrealm/SummaryCountPinLaw" (some 0) with
  accessFlags := 49
  interfaces := #[]
  cf := some (fileOf pool1 29 #[] #[{ accessFlags := 2, nameIndex := 5, descriptorIndex := 6, attributes := #[] }, { accessFlags := 9, nameIndex := 33, descriptorIndex := 34, attributes := #[] }] 49 2 #[] #[])
  fields := #[]
  methods := #[k1m0, k1m1]
  instanceTypes := #[]
  staticTypes := #[]
  resolved := Array.replicate 38 none
  statics := none }

def pool2 : Array CpInfo := pool [(1, .methodref 2 3), (0, .class_ 4), (0, .nameAndType 5 6), (0, u "java/lang/Object"), (0, u "<init>"), (0, u "()V"), (9, .fieldref 17 18), (0, .class_ 19), (0, .nameAndType 20 21), (0, u "com/example/fill_realm/fillrealm/Summary"), (0, u "created"), (0, u "I"), (0, .fieldref 17 23), (0, .nameAndType 24 21), (0, u "skipped"), (0, .fieldref 17 26), (0, .nameAndType 27 21), (0, u "failed"), (0, .fieldref 29 30), (0, .class_ 31), (0, .nameAndType 32 33), (0, u "com/example/fill_realm/fillrealm/Summary$1"), (0, u "$SwitchMap$com$example$fill_realm$fillrealm$Outcome"), (0, u "[I"), (0, .methodref 35 36), (0, .class_ 37), (0, .nameAndType 38 39), (0, u "com/example/fill_realm/fillrealm/Outcome"), (0, u "ordinal"), (0, u "()I"), (7, u "(III)V"), (17, u "count"), (0, u "(Lcom/example/fill_realm/fillrealm/Outcome;)I"), (12, u "NONE"), (0, u "Lcom/example/fill_realm/fillrealm/Summary;")] 31

def k2c0 : Code := { maxStack := 5, maxLocals := 4, code := prog_13_method_1_code, exceptionTable := #[], attributes := #[] }
def k2m0 : Method := { name := "<init>", desc := "(III)V", sig := { parameters := [.int, .int, .int], returnType := none }, accessFlags := 1, code := some k2c0 }
def k2c1 : Code := { maxStack := 4, maxLocals := 2, code := prog_13_method_5_code, exceptionTable := #[], attributes := #[] }
def k2m1 : Method := { name := "count", desc := "(Lcom/example/fill_realm/fillrealm/Outcome;)I", sig := { parameters := [(.object "com/example/fill_realm/fillrealm/Outcome")], returnType := some .int }, accessFlags := 1, code := some k2c1 }
/-- com/example/fill_realm/fillrealm/Summary -/
def k2 : Class := { plain "com/example/fill_realm/fillrealm/Summary" (some 0) with
  accessFlags := 49
  interfaces := #[]
  cf := some (fileOf pool2 17 #[.nestMembers #[29]] #[{ accessFlags := 1, nameIndex := 5, descriptorIndex := 47, attributes := #[] }, { accessFlags := 1, nameIndex := 65, descriptorIndex := 66, attributes := #[] }] 49 2 #[] #[{ accessFlags := 25, nameIndex := 79, descriptorIndex := 80, attributes := #[] }, { accessFlags := 18, nameIndex := 20, descriptorIndex := 21, attributes := #[] }, { accessFlags := 18, nameIndex := 24, descriptorIndex := 21, attributes := #[] }, { accessFlags := 18, nameIndex := 27, descriptorIndex := 21, attributes := #[] }])
  fields := #[{ name := "NONE", type := (.object "com/example/fill_realm/fillrealm/Summary"), accessFlags := 25, slot := 0, constantValue := 0 }, { name := "created", type := .int, accessFlags := 18, slot := 0, constantValue := 0 }, { name := "skipped", type := .int, accessFlags := 18, slot := 1, constantValue := 0 }, { name := "failed", type := .int, accessFlags := 18, slot := 2, constantValue := 0 }]
  methods := #[k2m0, k2m1]
  instanceTypes := #[.int, .int, .int]
  staticTypes := #[(.object "com/example/fill_realm/fillrealm/Summary")]
  resolved := Array.replicate 112 none
  statics := none }

def pool3 : Array CpInfo := pool [(1, .class_ 2), (0, u "java/lang/constant/Constable"), (0, .class_ 4), (0, u "java/lang/Object")] 6

/-- java/lang/constant/Constable -/
def k3 : Class := { plain "java/lang/constant/Constable" (some 0) with
  accessFlags := 1537
  interfaces := #[]
  cf := some (fileOf pool3 1 #[] #[] 1537 3 #[] #[])
  fields := #[]
  methods := #[]
  instanceTypes := #[]
  staticTypes := #[]
  resolved := Array.replicate 11 none
  statics := none }

def pool4 : Array CpInfo := pool [(1, .class_ 2), (0, u "java/lang/Comparable"), (0, .class_ 4), (0, u "java/lang/Object")] 7

/-- java/lang/Comparable -/
def k4 : Class := { plain "java/lang/Comparable" (some 0) with
  accessFlags := 1537
  interfaces := #[]
  cf := some (fileOf pool4 1 #[] #[] 1537 3 #[] #[])
  fields := #[]
  methods := #[]
  instanceTypes := #[]
  staticTypes := #[]
  resolved := Array.replicate 12 none
  statics := none }

def pool5 : Array CpInfo := pool [(1, .class_ 2), (0, u "java/io/Serializable"), (0, .class_ 4), (0, u "java/lang/Object")] 2

/-- java/io/Serializable -/
def k5 : Class := { plain "java/io/Serializable" (some 0) with
  accessFlags := 1537
  interfaces := #[]
  cf := some (fileOf pool5 1 #[] #[] 1537 3 #[] #[])
  fields := #[]
  methods := #[]
  instanceTypes := #[]
  staticTypes := #[]
  resolved := Array.replicate 7 none
  statics := none }

def pool6 : Array CpInfo := pool [(2, .class_ 4), (1, u "java/lang/Enum"), (0, u "name"), (0, u "Ljava/lang/String;"), (0, .fieldref 2 8), (0, .nameAndType 9 10), (0, u "ordinal"), (0, u "I"), (1, .class_ 14), (1, u "java/lang/Object"), (4, u "hash"), (86, .class_ 108), (1, u "java/lang/Enum$EnumDesc"), (2, .class_ 112), (0, u "java/lang/constant/Constable"), (0, .class_ 114), (0, u "java/lang/Comparable"), (0, .class_ 116), (0, u "java/io/Serializable"), (9, u "()I")] 77

def k6c0 : Code := { maxStack := 1, maxLocals := 1, code := jdk_37_method_2_code, exceptionTable := #[], attributes := #[] }
def k6m0 : Method := { name := "ordinal", desc := "()I", sig := { parameters := [], returnType := some .int }, accessFlags := 17, code := some k6c0 }
/-- java/lang/Enum -/
def k6 : Class := { plain "java/lang/Enum" (some 0) with
  accessFlags := 1057
  interfaces := #[3, 4, 5]
  cf := some (fileOf pool6 2 #[.nestMembers #[106]] #[{ accessFlags := 17, nameIndex := 9, descriptorIndex := 126, attributes := #[] }] 1057 12 #[111, 113, 115] #[{ accessFlags := 18, nameIndex := 5, descriptorIndex := 6, attributes := #[] }, { accessFlags := 18, nameIndex := 9, descriptorIndex := 10, attributes := #[] }, { accessFlags := 2, nameIndex := 19, descriptorIndex := 10, attributes := #[] }])
  fields := #[{ name := "name", type := (.object "java/lang/String"), accessFlags := 18, slot := 0, constantValue := 0 }, { name := "ordinal", type := .int, accessFlags := 18, slot := 1, constantValue := 0 }, { name := "hash", type := .int, accessFlags := 2, slot := 2, constantValue := 0 }]
  methods := #[k6m0]
  instanceTypes := #[(.object "java/lang/String"), .int, .int]
  staticTypes := #[]
  resolved := Array.replicate 204 none
  statics := none }

def pool7 : Array CpInfo := pool [(1, .class_ 2), (0, u "com/example/fill_realm/fillrealm/Outcome"), (2, u "CREATED"), (0, u "Lcom/example/fill_realm/fillrealm/Outcome;"), (2, u "SKIPPED"), (2, u "FAILED"), (2, u "$VALUES"), (0, u "[Lcom/example/fill_realm/fillrealm/Outcome;"), (6, .class_ 25), (1, u "java/lang/Enum")] 42

/-- com/example/fill_realm/fillrealm/Outcome -/
def k7 : Class := { plain "com/example/fill_realm/fillrealm/Outcome" (some 6) with
  accessFlags := 16433
  interfaces := #[]
  cf := some (fileOf pool7 1 #[] #[] 16433 23 #[] #[{ accessFlags := 16409, nameIndex := 5, descriptorIndex := 6, attributes := #[] }, { accessFlags := 16409, nameIndex := 9, descriptorIndex := 6, attributes := #[] }, { accessFlags := 16409, nameIndex := 12, descriptorIndex := 6, attributes := #[] }, { accessFlags := 4122, nameIndex := 15, descriptorIndex := 16, attributes := #[] }])
  fields := #[{ name := "CREATED", type := (.object "com/example/fill_realm/fillrealm/Outcome"), accessFlags := 16409, slot := 0, constantValue := 0 }, { name := "SKIPPED", type := (.object "com/example/fill_realm/fillrealm/Outcome"), accessFlags := 16409, slot := 1, constantValue := 0 }, { name := "FAILED", type := (.object "com/example/fill_realm/fillrealm/Outcome"), accessFlags := 16409, slot := 2, constantValue := 0 }, { name := "$VALUES", type := (.array (.object "com/example/fill_realm/fillrealm/Outcome")), accessFlags := 4122, slot := 3, constantValue := 0 }]
  methods := #[]
  instanceTypes := #[(.object "java/lang/String"), .int, .int]
  staticTypes := #[(.object "com/example/fill_realm/fillrealm/Outcome"), (.object "com/example/fill_realm/fillrealm/Outcome"), (.object "com/example/fill_realm/fillrealm/Outcome"), (.array (.object "com/example/fill_realm/fillrealm/Outcome"))]
  resolved := Array.replicate 68 none
  statics := some 0 }

def pool8 : Array CpInfo := pool [(8, .class_ 10), (1, u "com/example/fill_realm/fillrealm/Summary$1"), (0, u "$SwitchMap$com$example$fill_realm$fillrealm$Outcome"), (0, u "[I"), (16, .class_ 30), (0, u "java/lang/Object"), (8, .class_ 40), (0, u "com/example/fill_realm/fillrealm/Summary")] 2

/-- com/example/fill_realm/fillrealm/Summary$1 -/
def k8 : Class := { plain "com/example/fill_realm/fillrealm/Summary$1" (some 0) with
  accessFlags := 4128
  interfaces := #[]
  cf := some (fileOf pool8 8 #[.nestHost 39] #[] 4128 29 #[] #[{ accessFlags := 4120, nameIndex := 11, descriptorIndex := 12, attributes := #[] }])
  fields := #[{ name := "$SwitchMap$com$example$fill_realm$fillrealm$Outcome", type := (.array .int), accessFlags := 4120, slot := 0, constantValue := 0 }]
  methods := #[]
  instanceTypes := #[]
  staticTypes := #[(.array .int)]
  resolved := Array.replicate 43 none
  statics := some 1 }

def pool9 : Array CpInfo := pool [(1, u "java/lang/Cloneable"), (0, .class_ 1), (0, u "java/lang/Object"), (0, .class_ 3)] 3

/-- java/lang/Cloneable -/
def k9 : Class := { plain "java/lang/Cloneable" (some 0) with
  accessFlags := 1537
  interfaces := #[]
  cf := some (fileOf pool9 2 #[] #[] 1537 4 #[] #[])
  fields := #[]
  methods := #[]
  instanceTypes := #[]
  staticTypes := #[]
  resolved := Array.replicate 8 none
  statics := none }

/-- the primitive byte -/
def k10 : Class := { plain "byte" none with kind := .primitive 'B', accessFlags := 0x411 }
/-- [B -/
def k11 : Class := { plain "[B" (some 0) with kind := .array 10 .byte, interfaces := #[9, 5], accessFlags := 1041 }

/-- the primitive int -/
def k12 : Class := { plain "int" none with kind := .primitive 'I', accessFlags := 0x411 }
/-- [I -/
def k13 : Class := { plain "[I" (some 0) with kind := .array 12 .int, interfaces := #[9, 5], accessFlags := 1041 }

def heap : Heap := #[{ cls := 7, slots := #[.ref 2, .ref 4, .ref 5, .null], vm := .statics 7 },
  { cls := 8, slots := #[.ref 3], vm := .statics 8 },
  { cls := 7, slots := #[.null, .int 0, .int 0], vm := .none },
  { cls := 13, slots := #[.int 1, .int 2, .int 3], vm := .none },
  { cls := 7, slots := #[.null, .int 1, .int 0], vm := .none },
  { cls := 7, slots := #[.null, .int 2, .int 0], vm := .none }]
def classes : Array Class := #[k0, k1, k2, k3, k4, k5, k6, k7, k8, k9, k10, k11, k12, k13]
def interned : List (Array UInt16 × Addr) := []
def slotsUsed : Nat := 17
def theMethod : MethodId := ⟨1, 1⟩
def args0 : Array Value := #[.int 5, .int 6, .int 7]
def aboutOver (below : List Frame) : State where
  vm := { classes := classes, interned := interned.toArray }
  heap := heap
  slotsUsed := slotsUsed
  threads := #[{ frames := .invoking theMethod args0 :: below }]
def below0 : List Frame := [.native { method := ⟨0, 0⟩, args := #[] }]
def about1 : State := aboutOver below0
def p0 : Program := .bare "" "" ""
def e0 : Env := launch0.env 0 0 0
theorem w_frames : about1.frames = Frame.invoking theMethod args0 :: below0 := rfl
set_option maxRecDepth 65536 in
theorem w_args : argsFit about1.vm theMethod args0 = true := by decide +kernel
set_option maxRecDepth 65536 in
theorem w_heap : heapFits about1 = true := by decide +kernel
set_option maxRecDepth 65536 in
theorem w_runnable : about1.curStatus? = some .runnable := by decide +kernel
set_option maxRecDepth 65536 in
theorem w_alone : about1.alone = true := by decide +kernel
set_option maxRecDepth 65536 in
theorem w_named : about1.methodNamed? x = some theMethod := by decide +kernel
set_option maxRecDepth 65536 in
theorem w_hears : about1.hears theMethod below0 = true := by decide +kernel
set_option maxRecDepth 65536 in
theorem w_ripe : about1.ripe theMethod args0 below0 = true := by decide +kernel
theorem w_running : about1.status = .running := rfl
set_option maxRecDepth 65536 in
theorem w_room : about1.hasRoom e0.platform room_1 = true :=
  launch0.hasRoom_least _ room_1 (by decide +kernel) (by decide +kernel) (by decide +kernel) (by decide +kernel) (by decide +kernel) (by decide +kernel)
theorem allAtoms_all (ts : List Jvm.Cond) (a : Array Jvm.Value) (st : Jvm.State) : (allAtoms ts).before a st = ts.all (fun c => c.before a st) := by
  induction ts with
  | nil => rfl
  | cons c t ih =>
    show (Jvm.Cond.and c (allAtoms t)).before a st = _
    rw [Jvm.Cond.before_and, ih, List.all_cons]
def words1 : List Jvm.Cond := Jvm.Cond.code x code maxLocals ret :: tables_1
/-- a 'code' word, met by the world's own term for the bytes: nothing is compared byte by byte -/
theorem code_word {y : MethodName} {bytes : ByteArray} {mx : Nat} {rt : Option FieldType} {a : Array Value} {s : State} {m : MethodId} {meth : Method} {c : Code} (h1 : s.methodNamed? y = some m) (h2 : s.vm.method? m = some meth) (h3 : meth.code = some c) (h4 : c.code = bytes)
    (h5 : (c.maxLocals == mx && c.exceptionTable.isEmpty && decide (c.maxStack ≤ mostOperands) && decide (meth.sig.returnType = rt) && !meth.locks && decide (parseMethodDescriptor y.desc = some meth.sig)) = true) : (Jvm.Cond.code y bytes mx rt).before a s = true := by
  simp only [Bool.and_eq_true, beq_iff_eq, Bool.not_eq_true', decide_eq_true_eq] at h5
  obtain ⟨⟨⟨⟨⟨g1, g2⟩, g3⟩, g4⟩, g5⟩, g6⟩ := h5
  simp [Cond.before, Cond.holds, Cond.value, h1, h2, h3, h4, g1, g2, g3, g4, g5, g6]
def isCode : Jvm.Cond → Bool
  | .code _ _ _ _ => true
  | _ => false
theorem all_split {L : List Jvm.Cond} {P : Jvm.Cond → Bool} (h1 : L.all (fun c => isCode c || P c) = true) (h2 : ∀ c ∈ L.filter isCode, P c = true) : L.all P = true := by
  refine List.all_eq_true.mpr fun c hc => ?_
  have h := List.all_eq_true.mp h1 c hc
  rcases Bool.eq_false_or_eq_true (isCode c) with hi | hi
  · exact h2 c (List.mem_filter.mpr ⟨hc, hi⟩)
  · simpa [hi] using h
set_option maxRecDepth 65536 in
theorem w_c0 : (Jvm.Cond.code x code maxLocals ret).before args0 about1 = true := code_word (m := ⟨1, 1⟩) (meth := k1m1) (c := k1c1) (by decide +kernel) rfl rfl rfl (by decide +kernel)
set_option maxRecDepth 65536 in
theorem w_c1 : (Jvm.Cond.code ({ cls := "com/example/fill_realm/fillrealm/Summary", name := "<init>", desc := "(III)V" } : Jvm.MethodName) prog_13_method_1_code (4 : Nat) (Option.none : Option Jvm.ClassFile.FieldType)).before args0 about1 = true := code_word (m := ⟨2, 0⟩) (meth := k2m0) (c := k2c0) (by decide +kernel) rfl rfl rfl (by decide +kernel)
set_option maxRecDepth 65536 in
theorem w_c2 : (Jvm.Cond.code ({ cls := "java/lang/Object", name := "<init>", desc := "()V" } : Jvm.MethodName) object_method_1_code (1 : Nat) (Option.none : Option Jvm.ClassFile.FieldType)).before args0 about1 = true := code_word (m := ⟨0, 0⟩) (meth := k0m0) (c := k0c0) (by decide +kernel) rfl rfl rfl (by decide +kernel)
set_option maxRecDepth 65536 in
theorem w_c3 : (Jvm.Cond.code ({ cls := "com/example/fill_realm/fillrealm/Summary", name := "count", desc := "(Lcom/example/fill_realm/fillrealm/Outcome;)I" } : Jvm.MethodName) prog_13_method_5_code (2 : Nat) (Option.some Jvm.ClassFile.FieldType.int)).before args0 about1 = true := code_word (m := ⟨2, 1⟩) (meth := k2m1) (c := k2c1) (by decide +kernel) rfl rfl rfl (by decide +kernel)
set_option maxRecDepth 65536 in
theorem w_c4 : (Jvm.Cond.code ({ cls := "java/lang/Enum", name := "ordinal", desc := "()I" } : Jvm.MethodName) jdk_37_method_2_code (1 : Nat) (Option.some Jvm.ClassFile.FieldType.int)).before args0 about1 = true := code_word (m := ⟨6, 0⟩) (meth := k6m0) (c := k6c0) (by decide +kernel) rfl rfl rfl (by decide +kernel)
def codes1 : List Jvm.Cond := [Jvm.Cond.code x code maxLocals ret, Jvm.Cond.code ({ cls := "com/example/fill_realm/fillrealm/Summary", name := "<init>", desc := "(III)V" } : Jvm.MethodName) prog_13_method_1_code (4 : Nat) (Option.none : Option Jvm.ClassFile.FieldType), Jvm.Cond.code ({ cls := "java/lang/Object", name := "<init>", desc := "()V" } : Jvm.MethodName) object_method_1_code (1 : Nat) (Option.none : Option Jvm.ClassFile.FieldType), Jvm.Cond.code ({ cls := "com/example/fill_realm/fillrealm/Summary", name := "count", desc := "(Lcom/example/fill_realm/fillrealm/Outcome;)I" } : Jvm.MethodName) prog_13_method_5_code (2 : Nat) (Option.some Jvm.ClassFile.FieldType.int), Jvm.Cond.code ({ cls := "java/lang/Enum", name := "ordinal", desc := "()I" } : Jvm.MethodName) jdk_37_method_2_code (1 : Nat) (Option.some Jvm.ClassFile.FieldType.int)]
set_option maxRecDepth 65536 in
theorem codes_eq : words1.filter isCode = codes1 := rfl
theorem w_codes : ∀ c ∈ words1.filter isCode, c.before args0 about1 = true := by
  rw [codes_eq]
  intro c hc
  simp only [codes1, List.mem_cons, List.not_mem_nil, or_false] at hc
  rcases hc with rfl | rfl | rfl | rfl | rfl
  · exact w_c0
  · exact w_c1
  · exact w_c2
  · exact w_c3
  · exact w_c4
set_option maxRecDepth 65536 in
theorem w_t1 : (words1.take 24).all (fun c => isCode c || c.before args0 about1) = true := by decide +kernel
set_option maxRecDepth 65536 in
theorem w_t2 : (words1.drop 24).all (fun c => isCode c || c.before args0 about1) = true := by decide +kernel
theorem w_tables : (allAtoms (Jvm.Cond.code x code maxLocals ret :: tables_1)).before args0 about1 = true := by
  rw [allAtoms_all]
  show words1.all (fun c => c.before args0 about1) = true
  refine all_split ?_ w_codes
  rw [← List.take_append_drop 24 words1, List.all_append, w_t1, w_t2]
  rfl
set_option maxRecDepth 65536 in
theorem w_case : (Jvm.Cond.and given_1 narrow_1).before args0 about1 = true := by decide +kernel
theorem w_applies : (headSpec (Jvm.Cond.code x code maxLocals ret :: tables_1) room_1).applies x e0.platform about1 = true :=
  (Spec.applies_iff w_frames).mpr ⟨w_running, w_runnable, w_alone, w_named, w_hears, w_ripe, w_room, w_tables⟩
theorem atStart : AtStart classFile x code maxLocals ret World_1 tables_1 room_1 Calls_1 rest_1 Pre_1 launch0 p0 e0 about1 theMethod args0 below0 :=
  ⟨lists_1, trivial, launch0.admits_env _ _ _, launch0.least_env, fairChoices_fair.cas, fairChoices_fair.clock, w_frames, w_args, w_heap, w_applies, trivial, trivial, w_case⟩
end start1
theorem witness_1 : WitnessClaimed_1 := ⟨start1.p0, start1.e0, start1.about1, start1.theMethod, start1.args0, start1.below0, start1.atStart⟩
end Jvm.Pilot.@@N@@
