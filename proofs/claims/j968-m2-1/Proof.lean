import JvmDerived
import JvmDerived.Pilot.@@N@@Statement
import JvmDerived.Pilot.@@N@@Code
set_option linter.unusedVariables false
set_option linter.unusedSimpArgs false
namespace Jvm.RoadKit
open Sem ClassFile Op Lib Jvm.Stand Jvm.Free Jvm.LawKit
section New
variable {p : Program} {l : Launch} {e : Env} {R : Room} {s : State} {m : MethodId} {args : Array Value} {below : List Frame} {meth : Method} {c : Code} {T : State} {locs : List Loc} {cells slots : Nat}
theorem retI (X : Stand p l e R s m args below meth c T locs cells slots) (hx : p.tables.exec = Jvm.exec) {pc : Nat} {Ls : Array Slot} {z : Int32} {rest : List Value} (hret : meth.sig.returnType = some .int) (hd : decode c.code pc = .ok (.ireturn, 1)) {fs : List Frame}
    (hl : ∀ (f : JFrame) (acts : List Action), f.method = m → f.locked = none → f.entered = [] → (doReturn e (T.setTop f) acts (some (.int z))).1 = T.setFrames fs) : Steps p.tables e below (T.setTop (mkF m pc Ls (.int z :: rest))) (T.setFrames fs) := by
  have hm' : T.vm.method? m = some meth := X.method'
  have hn : narrow .int (.int z) = .int z := rfl
  show Steps p.tables e below (T.setTop { method := m, pc := pc, locals := Ls, stack := _ :: rest, locked := none }) _
  jvm_step X.here [X.here.top, hx, hd, hm', hret, hn]
  first | (intro acts; rw [hl _ acts rfl rfl rfl]) | rw [hl _ _ rfl rfl rfl]
  exact Steps.refl _
end New
end Jvm.RoadKit
namespace Jvm.Pilot.@@N@@
open Jvm Jvm.ClassFile Sem Op Lib Jvm.Free Jvm.Stand Jvm.LawKit Jvm.RoadKit Bundle Jvm.Pilot.@@N@@.Jvm.D
theorem own_eqI {t : Term} {n : Int32} {args : Array Value} {s : State} (h : (Jvm.Cond.eq t (.int n)).value args s none s [] = some true) : t.eval args s none [] s = some (.int n) := by
  simp only [Cond.value, Term.eval] at h
  cases ht : t.eval args s none [] s with
  | none => simp [ht] at h
  | some x => cases x <;> simp [ht] at h ⊢; exact h
theorem own_eqJ {t : Term} {n : Int64} {args : Array Value} {s : State} (h : (Jvm.Cond.eq t (.long n)).value args s none s [] = some true) : t.eval args s none [] s = some (.long n) := by
  simp only [Cond.value, Term.eval] at h
  cases ht : t.eval args s none [] s with
  | none => simp [ht] at h
  | some x => cases x <;> simp [ht] at h ⊢; exact h
theorem own_eqR {t u : Term} {a : Addr} {args : Array Value} {s : State} (h : (Jvm.Cond.eq t u).value args s none s [] = some true) (hu : u.eval args s none [] s = some (.ref a)) : t.eval args s none [] s = some (.ref a) := by
  simp only [Cond.value, hu] at h
  cases ht : t.eval args s none [] s with
  | none => simp [ht] at h
  | some x => cases x <;> simp [ht] at h ⊢; exact h
theorem own_len {t : Term} {w : Addr} {c : Cell} {ty : FieldType} {n : Int32} {args : Array Value} {s : State} (ev : t.eval args s none [] s = some (.ref w)) (A : Arr s s.heap w c ty) (h : (Term.length t).eval args s none [] s = some (.int n)) (hn : ¬ n < 0) : c.slots.size = n.toNatClampNeg := by
  simp only [Term.eval, ev, A.fin (Vm.Alike.refl _), Option.bind_eq_bind, Option.bind_some] at h
  split at h
  · rename_i hl
    have q : c.slots.size.toInt32 = n := by simpa using h
    rw [← q]
    have q2 : c.slots.size.toInt32.toInt = (c.slots.size : Int) := len_toInt hl
    have q3 := nat_of (j := c.slots.size.toInt32) (by rw [q]; exact hn)
    omega
  · simp at h
theorem own_extW {Z : State} {h h' : Heap} {a : Addr} {sl : Nat} {v : Value} (X : Ext Z.heap h) (W : Wr h h' a sl v) (q : Z.heap.size ≤ a) : Ext Z.heap h' := (Old.wr (Z := Z) ⟨rfl, X⟩ W q).2
theorem own_ext2 {h h' h'' : Heap} (X : Ext h h') (E : Ext h' h'') : Ext h h'' := ⟨Nat.le_trans X.1 E.1, fun x c q => E.2 x c (X.2 x c q)⟩
theorem own_extK {Z : State} {h h' : Heap} {ws : List Addr} (X : Ext Z.heap h) (K : Keep h h' ws) (q : ∀ x ∈ ws, Z.heap.size ≤ x) : Ext Z.heap h' := (Old.keep (Z := Z) ⟨rfl, X⟩ K q).2
theorem own_neI {t : Term} {n x : Int32} {args : Array Value} {s : State} (h : (Jvm.Cond.eq t (.int n)).value args s none s [] = some (!true)) (ev : t.eval args s none [] s = some (.int x)) : ¬ (x = n) := by
  intro q
  subst q
  simp [Cond.value, Term.eval, ev] at h
theorem own_nsRoot {Z : State} {a0 : Array Value} {O K : String} {n : Nat} (w : (Jvm.Cond.noSuperclass O).before a0 Z = true) (wk : (Jvm.Cond.instantiable K n).before a0 Z = true) (hn : O ≠ K) : NS Z O K := by
  obtain ⟨c, k, h1, h2, h3, -, -⟩ := Cond.noSuperclass_spec w
  obtain ⟨t, k', g1, -⟩ := Cond.instantiable_spec wk
  have ne := ids_ne h1 g1 hn
  refine ⟨c, t, h1, g1, fun fuel => ?_⟩
  cases fuel with
  | zero => rfl
  | succ f => simp [Vm.isSubclassAux, ne, h2, h3]
theorem own_nsNo {Z : State} {a0 : Array Value} {C S K : String} {n : Nat} (w : (Jvm.Cond.superclass C S).before a0 Z = true) (wk : (Jvm.Cond.instantiable K n).before a0 Z = true) (N : NS Z C K) (hn : C ≠ K) : ∃ c t, Z.vm.findClass C = some c ∧ Z.vm.findClass K = some t ∧ Z.vm.assignable c t = false := by
  obtain ⟨c, t, h0, g0, n3⟩ := N
  obtain ⟨p, k, kp, h1, h2, h3, h4, h5, -, h7⟩ := Cond.superclass_spec h0 w
  obtain ⟨q, k', g1, g2, g5, g7, -, -⟩ := Cond.instantiable_spec wk
  cases g0.symm.trans g1
  have ne := ids_ne h0 g0 hn
  have gi : k'.isInterface = false := by cases hi : k'.isInterface <;> simp [hi] at g7 ⊢
  refine ⟨c, t, h0, g0, ?_⟩
  show Z.vm.assignableAux (255 + 1) c t = false
  simp [Vm.assignableAux, ne, h2, g2, h5, g5, gi, Vm.isSubclass, n3]
theorem own_nb (x : Int32) : nar .byte (x.toInt8.toInt32) = x.toInt8.toInt32 := by simp [nar]
abbrev own_S (p : Program) (e : Env) (below : List Frame) (T : State) (g : JFrame) (t : State) : Prop := Steps p.tables e below (T.setTop g) t
theorem own_w {Z : State} {a0 : Array Value} (hw : ∀ d ∈ tables_1, d.before a0 Z = true) {d : Jvm.Cond} (i : Nat) (h : tables_1[i]? = some d) : d.before a0 Z = true := hw _ (List.mem_of_getElem? h)
/-- a body's contract: what it returns and leaves -/
abbrev own_met (l : Launch) (y : MethodName) (b : ByteArray) (ml : Nat) (rt : Option FieldType) (ws : List Jvm.Cond) (R : Room) (Z : State) (A : Array Value) (h0 : Heap) (Q : Option Value → Heap → List Loc → Prop) : Prop :=
  MetFree l y (head1 (Jvm.Cond.code y b ml rt :: ws) R) (fun a U => a = A ∧ Z.Warmed39 U.vm ∧ U.heap = h0) (fun _ _ _ _ _ => True) (fun _ U o U' => ∃ v L, o = .returned v ∧ Q v U'.heap L ∧ FrameEnd U o U' L R.cells R.slots)
theorem own_start {l : Launch} {y : MethodName} {b : ByteArray} {ml : Nat} {rt : Option FieldType} {ws : List Jvm.Cond} {R : Room} {Z : State} {A : Array Value} {h0 : Heap} {Q : Option Value → Heap → List Loc → Prop} {Ls : Array Slot}
    (hpl : plainFor y = true) (hef : ∀ m, entryFrame m A ml = mkF m 0 Ls [])
    (body : ∀ p e s m below meth c s₁, p.tables.exec = Jvm.exec → c.code = b → c.maxLocals = ml → s.vm.findClass y.cls = some m.cls → meth.name = y.name → Stand p l e R s m A below meth c s₁ [] 0 0 → Z.Warmed39 s.vm → s₁.heap = h0 → meth.sig.returnType = rt → meth.locks = false →
      ∃ s₂ o, Steps p.tables e below (s₁.setTop (mkF m 0 Ls [])) s₂ ∧ s₂.status = .running ∧ Ended s₂ below o ∧ ∃ v L, o = .returned v ∧ Q v s₂.heap L ∧ FrameEnd s o s₂ L R.cells R.slots) : own_met l y b ml rt ws R Z A h0 Q := by
  refine MetFree.of_bodySF hpl hisR ?_
  intro p e s m args below meth c s₁ Bd hml0 hP hK
  obtain ⟨rfl, hZ, hh⟩ := hP
  obtain ⟨s₂, o, k, r⟩ := body p e s m below meth c s₁ Bd.exec Bd.bytes hml0 (findClass_of_methodNamed Bd.named) (name_of_methodNamed Bd.named Bd.method).1 (Stand.of_body Bd) hZ (by rw [← hh, Bd.state]; rfl) Bd.returns Bd.notSynchronized
  exact ⟨s₂, o, castTop (hef m) k, r⟩
section OwnCalls
variable {p : Program} {l : Launch} {e : Env} {R : Room} {s : State} {m : MethodId} {args : Array Value} {below : List Frame} {meth : Method} {c : Code} {T : State} {locs : List Loc} {cells slots : Nat} {Z : State} {a0 : Array Value} {h : Heap} {own : String} {index : Nat} {y z : MethodName} {b : ByteArray} {ml : Nat} {rt : Option FieldType} {rm : Room} {as' : Array Value} {Q : Option Value → Heap → List Loc → Prop} {W : Nat} {g : JFrame} {argsL rest : List Value}
theorem own_static (X : Stand p l e R s m args below meth c T locs cells slots) (hx : p.tables.exec = Jvm.exec) (hZ : Z.Warmed39 s.vm) (hown : s.vm.findClass own = some m.cls) (w1 : (Jvm.Cond.methodLink own index y).before a0 Z = true) (w2 : (Jvm.Cond.static y).before a0 Z = true) (w3 : (Jvm.Cond.initialized y.cls).before a0 Z = true) (w4 : (Jvm.Cond.code y b ml rt).before a0 Z = true)
    (hy : y.cls ≠ "java/lang/invoke/MethodHandle" ∧ y.cls ≠ "java/lang/invoke/VarHandle") (hM : own_met l y b ml rt [] rm Z as' h Q) (hf : rm.frames + 1 ≤ R.frames) (hl : W + (ml + 11) + rm.locals ≤ R.locals) (eT : T.heap = h) (hg : g.method = m) (hsize : g.locals.size = c.maxLocals) (hlen : ∀ sig, parseMethodDescriptor y.desc = some sig → argsL.length = sig.parameters.length) (ha : argsL.toArray = as')
    (hs : g.stack = argsL.reverse ++ rest) (hW : 2 * g.monitorRoom + (rest.map fun v => v.category).sum ≤ W) (hd : decode c.code g.pc = .ok (.invokestatic index, 3)) (hc : cells + rm.cells ≤ R.cells) (hsl : slots + rm.slots ≤ R.slots) :
    ∃ v T' L, Stand p l e R s m args below meth c T' (locs ++ L) (cells + rm.cells) (slots + rm.slots) ∧ Q v T'.heap L ∧ ∀ target, Steps p.tables e below (T'.setTop { g with pc := g.pc + 3, stack := v.toList ++ rest }) target → Steps p.tables e below (T.setTop g) target := by
  obtain ⟨v, _, ⟨T', L', k', n'⟩, -, X', ⟨Lc, hQ, l1, y1, z1⟩, st⟩ := Jvm.LawKit.callS X hx (y := y) hown (mvT hZ w1) (mvT hZ w2) (mvT hZ w3) (mvT hZ w4) hy (backOf (W := W) hM hZ w4 w3 hf hl) (g := g) hg hsize (argsL := argsL) (rest := rest) hlen hs hW hd (fun _ _ => ⟨ha, eT, hc, hsl⟩)
  dsimp only [Pt.U, Pt.locs, Pt.cells, Pt.slots] at X' l1 y1 z1 st hQ
  subst l1 y1 z1
  exact ⟨v, T', Lc, X', hQ, st⟩
theorem own_special (X : Stand p l e R s m args below meth c T locs cells slots) (hx : p.tables.exec = Jvm.exec) (hZ : Z.Warmed39 s.vm) (hown : s.vm.findClass own = some m.cls) (hn : y.name = "<init>") (w1 : (Jvm.Cond.methodLink own index y).before a0 Z = true) (w2 : (Jvm.Cond.instanceMethod y).before a0 Z = true) (w3 : (Jvm.Cond.initialized y.cls).before a0 Z = true) (w4 : (Jvm.Cond.code y b ml none).before a0 Z = true)
    (hy : y.cls ≠ "java/lang/invoke/MethodHandle" ∧ y.cls ≠ "java/lang/invoke/VarHandle") (hM : own_met l y b ml none [] rm Z as' h Q) (hf : rm.frames + 1 ≤ R.frames) (hl : W + (ml + 11) + rm.locals ≤ R.locals) (eT : T.heap = h) (hg : g.method = m) (hsize : g.locals.size = c.maxLocals) (a : Addr) (hlen : ∀ sig, parseMethodDescriptor y.desc = some sig → argsL.length = sig.parameters.length) (ha : (Value.ref a :: argsL).toArray = as')
    (hs : g.stack = argsL.reverse ++ .ref a :: rest) (hW : 2 * g.monitorRoom + (rest.map fun v => v.category).sum ≤ W) (hd : decode c.code g.pc = .ok (.invokespecial index, 3)) (hc : cells + rm.cells ≤ R.cells) (hsl : slots + rm.slots ≤ R.slots) :
    ∃ v T' L, Stand p l e R s m args below meth c T' (locs ++ L) (cells + rm.cells) (slots + rm.slots) ∧ Q v T'.heap L ∧ ∀ target, Steps p.tables e below (T'.setTop { g with pc := g.pc + 3, stack := v.toList ++ rest }) target → Steps p.tables e below (T.setTop g) target := by
  obtain ⟨v, _, ⟨T', L', k', n'⟩, -, X', ⟨Lc, hQ, l1, y1, z1⟩, st⟩ := X.specialBack hx (y := y) hn hown (mvT hZ w1) (mvT hZ w2) (mvT hZ w4) hy (backOf (W := W) hM hZ w4 w3 hf hl) (g := g) hg hsize (Steps.refl _) (a := a) (argsL := argsL) (rest := rest) hlen hs hW hd (fun _ _ => ⟨ha, eT, hc, hsl⟩)
  dsimp only [Pt.U, Pt.locs, Pt.cells, Pt.slots] at X' l1 y1 z1 st hQ
  subst l1 y1 z1
  exact ⟨v, T', Lc, X', hQ, fun _ k => st.trans k⟩
theorem own_virtual (X : Stand p l e R s m args below meth c T locs cells slots) (hx : p.tables.exec = Jvm.exec) (hZ : Z.Warmed39 s.vm) (hown : s.vm.findClass own = some m.cls) {C : String} (w1 : (Jvm.Cond.methodLink own index y).before a0 Z = true) (w5 : (Jvm.Cond.declares y).before a0 Z = true) (w6 : (Jvm.Cond.selects C y y).before a0 Z = true) (w2 : (Jvm.Cond.instanceMethod y).before a0 Z = true) (w3 : (Jvm.Cond.initialized y.cls).before a0 Z = true) (w4 : (Jvm.Cond.code y b ml rt).before a0 Z = true)
    (hy : y.cls ≠ "java/lang/invoke/MethodHandle" ∧ y.cls ≠ "java/lang/invoke/VarHandle") (hM : own_met l y b ml rt [] rm Z as' h Q) (hf : rm.frames + 1 ≤ R.frames) (hl : W + (ml + 11) + rm.locals ≤ R.locals) (eT : T.heap = h) {a : Addr} (E : Exa Z h a C) (hg : g.method = m) (hsize : g.locals.size = c.maxLocals) (hlen : ∀ sig, parseMethodDescriptor y.desc = some sig → argsL.length = sig.parameters.length) (ha : (Value.ref a :: argsL).toArray = as')
    (hs : g.stack = argsL.reverse ++ .ref a :: rest) (hW : 2 * g.monitorRoom + (rest.map fun v => v.category).sum ≤ W) (hd : decode c.code g.pc = .ok (.invokevirtual index, 3)) (hc : cells + rm.cells ≤ R.cells) (hsl : slots + rm.slots ≤ R.slots) :
    ∃ v T' L, Stand p l e R s m args below meth c T' (locs ++ L) (cells + rm.cells) (slots + rm.slots) ∧ Q v T'.heap L ∧ ∀ target, Steps p.tables e below (T'.setTop { g with pc := g.pc + 3, stack := v.toList ++ rest }) target → Steps p.tables e below (T.setTop g) target := by
  obtain ⟨cq, kq, qa, qb, qc⟩ := isOf hZ eT E
  obtain ⟨v, _, ⟨T', L', k', n'⟩, -, X', ⟨Lc, hQ, l1, y1, z1⟩, st⟩ := X.virtualBack hx (y := y) (z := y) hown (mvT hZ w1) (mvT hZ w5) (notFace_of_selects (args := #[]) (mvT hZ w6)) (mvT hZ w6) (mvT hZ w2) hy (backOf (W := W) hM hZ w4 w3 hf hl) qa qc (g := g) hg hsize (Steps.refl _) (argsL := argsL) (rest := rest) hlen hs hW hd (fun _ _ => ⟨ha, eT, hc, hsl⟩)
  dsimp only [Pt.U, Pt.locs, Pt.cells, Pt.slots] at X' l1 y1 z1 st hQ
  subst l1 y1 z1
  exact ⟨v, T', Lc, X', hQ, fun _ k => st.trans k⟩
theorem own_virtualUp (X : Stand p l e R s m args below meth c T locs cells slots) (hx : p.tables.exec = Jvm.exec) (hZ : Z.Warmed39 s.vm) (hown : s.vm.findClass own = some m.cls) {C owner : String} (w1 : (Jvm.Cond.methodLink own index z).before a0 Z = true) (w7 : (Jvm.Cond.sameMethod z.cls owner z.name z.desc).before a0 Z = true) (w5 : (Jvm.Cond.declares ⟨owner, z.name, z.desc⟩).before a0 Z = true) (w6 : (Jvm.Cond.selects C z y).before a0 Z = true) (w2 : (Jvm.Cond.instanceMethod y).before a0 Z = true) (w3 : (Jvm.Cond.initialized y.cls).before a0 Z = true) (w4 : (Jvm.Cond.code y b ml rt).before a0 Z = true)
    (hy : owner ≠ "java/lang/invoke/MethodHandle" ∧ owner ≠ "java/lang/invoke/VarHandle") (hM : own_met l y b ml rt [] rm Z as' h Q) (hf : rm.frames + 1 ≤ R.frames) (hl : W + (ml + 11) + rm.locals ≤ R.locals) (eT : T.heap = h) {a : Addr} (E : Exa Z h a C) (hg : g.method = m) (hsize : g.locals.size = c.maxLocals) (hlen : ∀ sig, parseMethodDescriptor z.desc = some sig → argsL.length = sig.parameters.length) (ha : (Value.ref a :: argsL).toArray = as')
    (hs : g.stack = argsL.reverse ++ .ref a :: rest) (hW : 2 * g.monitorRoom + (rest.map fun v => v.category).sum ≤ W) (hd : decode c.code g.pc = .ok (.invokevirtual index, 3)) (hc : cells + rm.cells ≤ R.cells) (hsl : slots + rm.slots ≤ R.slots) :
    ∃ v T' L, Stand p l e R s m args below meth c T' (locs ++ L) (cells + rm.cells) (slots + rm.slots) ∧ Q v T'.heap L ∧ ∀ target, Steps p.tables e below (T'.setTop { g with pc := g.pc + 3, stack := v.toList ++ rest }) target → Steps p.tables e below (T.setTop g) target := by
  obtain ⟨cq, kq, qa, qb, qc⟩ := isOf hZ eT E
  obtain ⟨v, _, ⟨T', L', k', n'⟩, -, X', ⟨Lc, hQ, l1, y1, z1⟩, st⟩ := X.virtualBackUp hx (x := z) (y := y) (owner := owner) hown (mvT hZ w1) (mvT hZ w7) (mvT hZ w5) hy (mvT hZ w6) (mvT hZ w2) (backOf (W := W) hM hZ w4 w3 hf hl) qa qc (g := g) hg hsize (Steps.refl _) (argsL := argsL) (rest := rest) hlen hs hW hd (fun _ _ => ⟨ha, eT, hc, hsl⟩)
  dsimp only [Pt.U, Pt.locs, Pt.cells, Pt.slots] at X' l1 y1 z1 st hQ
  subst l1 y1 z1
  exact ⟨v, T', Lc, X', hQ, fun _ k => st.trans k⟩
end OwnCalls

theorem own_nn (x : Int32) : ¬ ((x &&& (2147483647 : Int32)) < (0 : Int32)) := by
  have h := c_mask x (2147483647 : Int32) 31 (by decide) (by decide)
  have hk : ((2 ^ 31 : Nat) : Int) = 2147483648 := by decide
  rw [hk] at h
  have h0 : (0 : Int32).toInt = 0 := by decide
  rw [Int32.lt_iff_toInt_lt, h0]
  omega
theorem own_nr (x : Int32) : ¬ (((x &&& (2147483647 : Int32)) % (2147483647 : Int32)) < (0 : Int32)) ∧ ¬ ((((x &&& (2147483647 : Int32)) % (2147483647 : Int32)) + (1 : Int32)) < (0 : Int32)) := by
  have h := c_mask x (2147483647 : Int32) 31 (by decide) (by decide)
  have hk : ((2 ^ 31 : Nat) : Int) = 2147483648 := by decide
  rw [hk] at h
  have h0 : (0 : Int32).toInt = 0 := by decide
  have h1 : (1 : Int32).toInt = 1 := by decide
  have h2 := (c_irem (x &&& (2147483647 : Int32)) (2147483647 : Int32) 2147483647 (by decide)).1 (by omega)
  have h3 := c_iadd ((x &&& (2147483647 : Int32)) % (2147483647 : Int32)) (1 : Int32)
  have h4 := rng32 (((x &&& (2147483647 : Int32)) % (2147483647 : Int32)) + (1 : Int32))
  rw [Int32.lt_iff_toInt_lt, Int32.lt_iff_toInt_lt, h0]
  rw [h1] at h3
  constructor <;> omega
theorem own_split (p4 : Int32) : ((p4 &&& (2147483647 : Int32)) % (3 : Int32)) = (0 : Int32) ∨ ((p4 &&& (2147483647 : Int32)) % (3 : Int32)) = (1 : Int32) ∨ ((p4 &&& (2147483647 : Int32)) % (3 : Int32)) = (2 : Int32) := by
  have h := c_mask p4 (2147483647 : Int32) 31 (by decide) (by decide)
  have hk : ((2 ^ 31 : Nat) : Int) = 2147483648 := by decide
  rw [hk] at h
  have h2 := (c_irem (p4 &&& (2147483647 : Int32)) (3 : Int32) 3 (by decide)).1 (by omega)
  have q : (((p4 &&& (2147483647 : Int32)) % (3 : Int32))).toInt = 0 ∨ (((p4 &&& (2147483647 : Int32)) % (3 : Int32))).toInt = 1 ∨ (((p4 &&& (2147483647 : Int32)) % (3 : Int32))).toInt = 2 := by omega
  rcases q with q | q | q
  · exact Or.inl (Int32.toInt_inj.mp (q.trans (by decide)))
  · exact Or.inr (Or.inl (Int32.toInt_inj.mp (q.trans (by decide))))
  · exact Or.inr (Or.inr ((Int32.toInt_inj.mp (q.trans (by decide)))))
theorem pn_0 : plainName "com/example/fill_realm/fillrealm/Summary" = true := by first | (simp [plainName, overriddenIn]; done) | decide +kernel
theorem pn_1 : plainName "com/example/fill_realm/fillrealm/SummaryPlusPinLaw" = true := by first | (simp [plainName, overriddenIn]; done) | decide +kernel
theorem pn_2 : plainName "java/lang/Enum" = true := by first | (simp [plainName, overriddenIn]; done) | decide +kernel
theorem pd_0 : parseMethodDescriptor "(III)V" = some ⟨[.int, .int, .int], none⟩ := by decide +kernel
theorem pd_1 : parseMethodDescriptor "(I)Lcom/example/fill_realm/fillrealm/Outcome;" = some ⟨[.int], some (.object "com/example/fill_realm/fillrealm/Outcome")⟩ := by decide +kernel
theorem pd_2 : parseMethodDescriptor "()I" = some ⟨[], some .int⟩ := by decide +kernel
theorem pd_3 : parseMethodDescriptor "(Lcom/example/fill_realm/fillrealm/Outcome;)Lcom/example/fill_realm/fillrealm/Summary;" = some ⟨[(.object "com/example/fill_realm/fillrealm/Outcome")], some (.object "com/example/fill_realm/fillrealm/Summary")⟩ := by decide +kernel
abbrev y_0 : MethodName := ⟨"com/example/fill_realm/fillrealm/Summary", "<init>", "(III)V"⟩
abbrev y_1 : MethodName := ⟨"com/example/fill_realm/fillrealm/SummaryPlusPinLaw", "pick", "(I)Lcom/example/fill_realm/fillrealm/Outcome;"⟩
abbrev y_2 : MethodName := ⟨"java/lang/Enum", "ordinal", "()I"⟩
abbrev y_3 : MethodName := ⟨"com/example/fill_realm/fillrealm/Outcome", "ordinal", "()I"⟩
abbrev y_4 : MethodName := ⟨"com/example/fill_realm/fillrealm/Summary", "plus", "(Lcom/example/fill_realm/fillrealm/Outcome;)Lcom/example/fill_realm/fillrealm/Summary;"⟩
abbrev y_5 : MethodName := ⟨"com/example/fill_realm/fillrealm/Summary", "getCreated", "()I"⟩
abbrev y_6 : MethodName := ⟨"com/example/fill_realm/fillrealm/Summary", "getSkipped", "()I"⟩
abbrev y_7 : MethodName := ⟨"com/example/fill_realm/fillrealm/Summary", "getFailed", "()I"⟩
theorem d_prog_13_method_1_0 : decode prog_13_method_1_code 0 = .ok (.aload_n 0, 1) := by decide +kernel
theorem d_prog_13_method_1_1 : decode prog_13_method_1_code 1 = .ok (.invokespecial 1, 3) := by decide +kernel
theorem d_prog_13_method_1_4 : decode prog_13_method_1_code 4 = .ok (.iload_n 1, 1) := by decide +kernel
theorem d_prog_13_method_1_5 : decode prog_13_method_1_code 5 = .ok (.ifCond .lt 11, 3) := by decide +kernel
theorem d_prog_13_method_1_8 : decode prog_13_method_1_code 8 = .ok (.iload_n 2, 1) := by decide +kernel
theorem d_prog_13_method_1_9 : decode prog_13_method_1_code 9 = .ok (.ifCond .lt 7, 3) := by decide +kernel
theorem d_prog_13_method_1_12 : decode prog_13_method_1_code 12 = .ok (.iload_n 3, 1) := by decide +kernel
theorem d_prog_13_method_1_13 : decode prog_13_method_1_code 13 = .ok (.ifCond .ge 19, 3) := by decide +kernel
theorem d_prog_13_method_1_32 : decode prog_13_method_1_code 32 = .ok (.aload_n 0, 1) := by decide +kernel
theorem d_prog_13_method_1_33 : decode prog_13_method_1_code 33 = .ok (.iload_n 1, 1) := by decide +kernel
theorem d_prog_13_method_1_34 : decode prog_13_method_1_code 34 = .ok (.putfield 16, 3) := by decide +kernel
theorem d_prog_13_method_1_37 : decode prog_13_method_1_code 37 = .ok (.aload_n 0, 1) := by decide +kernel
theorem d_prog_13_method_1_38 : decode prog_13_method_1_code 38 = .ok (.iload_n 2, 1) := by decide +kernel
theorem d_prog_13_method_1_39 : decode prog_13_method_1_code 39 = .ok (.putfield 22, 3) := by decide +kernel
theorem d_prog_13_method_1_42 : decode prog_13_method_1_code 42 = .ok (.aload_n 0, 1) := by decide +kernel
theorem d_prog_13_method_1_43 : decode prog_13_method_1_code 43 = .ok (.iload_n 3, 1) := by decide +kernel
theorem d_prog_13_method_1_44 : decode prog_13_method_1_code 44 = .ok (.putfield 25, 3) := by decide +kernel
theorem d_prog_13_method_1_47 : decode prog_13_method_1_code 47 = .ok (.return_, 1) := by decide +kernel
theorem d_method_2_0 : decode method_2_code 0 = .ok (.iload_n 0, 1) := by decide +kernel
theorem d_method_2_1 : decode method_2_code 1 = .ok (.ifCond .ne 7, 3) := by decide +kernel
theorem d_method_2_4 : decode method_2_code 4 = .ok (.getstatic 7, 3) := by decide +kernel
theorem d_method_2_7 : decode method_2_code 7 = .ok (.areturn, 1) := by decide +kernel
theorem d_prog_13_method_6_0 : decode prog_13_method_6_code 0 = .ok (.getstatic 28, 3) := by decide +kernel
theorem d_prog_13_method_6_3 : decode prog_13_method_6_code 3 = .ok (.aload_n 1, 1) := by decide +kernel
theorem d_prog_13_method_6_4 : decode prog_13_method_6_code 4 = .ok (.invokevirtual 34, 3) := by decide +kernel
theorem d_jdk_37_method_2_0 : decode jdk_37_method_2_code 0 = .ok (.aload_n 0, 1) := by decide +kernel
theorem d_jdk_37_method_2_1 : decode jdk_37_method_2_code 1 = .ok (.getfield 7, 3) := by decide +kernel
theorem d_jdk_37_method_2_4 : decode jdk_37_method_2_code 4 = .ok (.ireturn, 1) := by decide +kernel
theorem d_prog_13_method_6_7 : decode prog_13_method_6_code 7 = .ok (.iaload, 1) := by decide +kernel
theorem d_prog_13_method_6_8 : decode prog_13_method_6_code 8 = .ok (.tableswitch 28 1 3 #[38, 62, 86], 28) := by decide +kernel
theorem d_prog_13_method_6_46 : decode prog_13_method_6_code 46 = .ok (.new 17, 3) := by decide +kernel
theorem d_prog_13_method_6_49 : decode prog_13_method_6_code 49 = .ok (.dup, 1) := by decide +kernel
theorem d_prog_13_method_6_50 : decode prog_13_method_6_code 50 = .ok (.aload_n 0, 1) := by decide +kernel
theorem d_prog_13_method_6_51 : decode prog_13_method_6_code 51 = .ok (.getfield 16, 3) := by decide +kernel
theorem d_prog_13_method_6_54 : decode prog_13_method_6_code 54 = .ok (.iconst 1, 1) := by decide +kernel
theorem d_prog_13_method_6_55 : decode prog_13_method_6_code 55 = .ok (.iadd, 1) := by decide +kernel
theorem d_prog_13_method_6_56 : decode prog_13_method_6_code 56 = .ok (.aload_n 0, 1) := by decide +kernel
theorem d_prog_13_method_6_57 : decode prog_13_method_6_code 57 = .ok (.getfield 22, 3) := by decide +kernel
theorem d_prog_13_method_6_60 : decode prog_13_method_6_code 60 = .ok (.aload_n 0, 1) := by decide +kernel
theorem d_prog_13_method_6_61 : decode prog_13_method_6_code 61 = .ok (.getfield 25, 3) := by decide +kernel
theorem d_prog_13_method_6_64 : decode prog_13_method_6_code 64 = .ok (.invokespecial 45, 3) := by decide +kernel
theorem d_prog_13_method_6_67 : decode prog_13_method_6_code 67 = .ok (.goto 48, 3) := by decide +kernel
theorem d_prog_13_method_6_115 : decode prog_13_method_6_code 115 = .ok (.areturn, 1) := by decide +kernel
theorem d_prog_13_method_2_0 : decode prog_13_method_2_code 0 = .ok (.aload_n 0, 1) := by decide +kernel
theorem d_prog_13_method_2_1 : decode prog_13_method_2_code 1 = .ok (.getfield 16, 3) := by decide +kernel
theorem d_prog_13_method_2_4 : decode prog_13_method_2_code 4 = .ok (.ireturn, 1) := by decide +kernel
theorem d_prog_13_method_3_0 : decode prog_13_method_3_code 0 = .ok (.aload_n 0, 1) := by decide +kernel
theorem d_prog_13_method_3_1 : decode prog_13_method_3_code 1 = .ok (.getfield 22, 3) := by decide +kernel
theorem d_prog_13_method_3_4 : decode prog_13_method_3_code 4 = .ok (.ireturn, 1) := by decide +kernel
theorem d_prog_13_method_4_0 : decode prog_13_method_4_code 0 = .ok (.aload_n 0, 1) := by decide +kernel
theorem d_prog_13_method_4_1 : decode prog_13_method_4_code 1 = .ok (.getfield 25, 3) := by decide +kernel
theorem d_prog_13_method_4_4 : decode prog_13_method_4_code 4 = .ok (.ireturn, 1) := by decide +kernel
theorem d_method_2_8 : decode method_2_code 8 = .ok (.iload_n 0, 1) := by decide +kernel
theorem d_method_2_9 : decode method_2_code 9 = .ok (.iconst 1, 1) := by decide +kernel
theorem d_method_2_10 : decode method_2_code 10 = .ok (.if_icmp .ne 7, 3) := by decide +kernel
theorem d_method_2_13 : decode method_2_code 13 = .ok (.getstatic 13, 3) := by decide +kernel
theorem d_method_2_16 : decode method_2_code 16 = .ok (.areturn, 1) := by decide +kernel
theorem d_prog_13_method_6_70 : decode prog_13_method_6_code 70 = .ok (.new 17, 3) := by decide +kernel
theorem d_prog_13_method_6_73 : decode prog_13_method_6_code 73 = .ok (.dup, 1) := by decide +kernel
theorem d_prog_13_method_6_74 : decode prog_13_method_6_code 74 = .ok (.aload_n 0, 1) := by decide +kernel
theorem d_prog_13_method_6_75 : decode prog_13_method_6_code 75 = .ok (.getfield 16, 3) := by decide +kernel
theorem d_prog_13_method_6_78 : decode prog_13_method_6_code 78 = .ok (.aload_n 0, 1) := by decide +kernel
theorem d_prog_13_method_6_79 : decode prog_13_method_6_code 79 = .ok (.getfield 22, 3) := by decide +kernel
theorem d_prog_13_method_6_82 : decode prog_13_method_6_code 82 = .ok (.iconst 1, 1) := by decide +kernel
theorem d_prog_13_method_6_83 : decode prog_13_method_6_code 83 = .ok (.iadd, 1) := by decide +kernel
theorem d_prog_13_method_6_84 : decode prog_13_method_6_code 84 = .ok (.aload_n 0, 1) := by decide +kernel
theorem d_prog_13_method_6_85 : decode prog_13_method_6_code 85 = .ok (.getfield 25, 3) := by decide +kernel
theorem d_prog_13_method_6_88 : decode prog_13_method_6_code 88 = .ok (.invokespecial 45, 3) := by decide +kernel
theorem d_prog_13_method_6_91 : decode prog_13_method_6_code 91 = .ok (.goto 24, 3) := by decide +kernel
theorem d_method_2_17 : decode method_2_code 17 = .ok (.getstatic 16, 3) := by decide +kernel
theorem d_method_2_20 : decode method_2_code 20 = .ok (.areturn, 1) := by decide +kernel
theorem d_prog_13_method_6_94 : decode prog_13_method_6_code 94 = .ok (.new 17, 3) := by decide +kernel
theorem d_prog_13_method_6_97 : decode prog_13_method_6_code 97 = .ok (.dup, 1) := by decide +kernel
theorem d_prog_13_method_6_98 : decode prog_13_method_6_code 98 = .ok (.aload_n 0, 1) := by decide +kernel
theorem d_prog_13_method_6_99 : decode prog_13_method_6_code 99 = .ok (.getfield 16, 3) := by decide +kernel
theorem d_prog_13_method_6_102 : decode prog_13_method_6_code 102 = .ok (.aload_n 0, 1) := by decide +kernel
theorem d_prog_13_method_6_103 : decode prog_13_method_6_code 103 = .ok (.getfield 22, 3) := by decide +kernel
theorem d_prog_13_method_6_106 : decode prog_13_method_6_code 106 = .ok (.aload_n 0, 1) := by decide +kernel
theorem d_prog_13_method_6_107 : decode prog_13_method_6_code 107 = .ok (.getfield 25, 3) := by decide +kernel
theorem d_prog_13_method_6_110 : decode prog_13_method_6_code 110 = .ok (.iconst 1, 1) := by decide +kernel
theorem d_prog_13_method_6_111 : decode prog_13_method_6_code 111 = .ok (.iadd, 1) := by decide +kernel
theorem d_prog_13_method_6_112 : decode prog_13_method_6_code 112 = .ok (.invokespecial 45, 3) := by decide +kernel
theorem ef_prog_13_method_1_RIII (m : MethodId) (x0 : Addr) (x1 : Int32) (x2 : Int32) (x3 : Int32) : entryFrame m #[(.ref x0), (.int x1), (.int x2), (.int x3)] 4 = mkF m 0 #[.val (.ref x0), .val (.int x1), .val (.int x2), .val (.int x3)] [] := by first | (simp [entryFrame, mkF, argsToLocals, Value.category]; done) | rfl
theorem ef_method_2_I (m : MethodId) (x0 : Int32) : entryFrame m #[(.int x0)] 1 = mkF m 0 #[.val (.int x0)] [] := by first | (simp [entryFrame, mkF, argsToLocals, Value.category]; done) | rfl
theorem ef_jdk_37_method_2_R (m : MethodId) (x0 : Addr) : entryFrame m #[(.ref x0)] 1 = mkF m 0 #[.val (.ref x0)] [] := by first | (simp [entryFrame, mkF, argsToLocals, Value.category]; done) | rfl
theorem ef_prog_13_method_6_RR (m : MethodId) (x0 : Addr) (x1 : Addr) : entryFrame m #[(.ref x0), (.ref x1)] 2 = mkF m 0 #[.val (.ref x0), .val (.ref x1)] [] := by first | (simp [entryFrame, mkF, argsToLocals, Value.category]; done) | rfl
theorem ef_prog_13_method_2_R (m : MethodId) (x0 : Addr) : entryFrame m #[(.ref x0)] 1 = mkF m 0 #[.val (.ref x0)] [] := by first | (simp [entryFrame, mkF, argsToLocals, Value.category]; done) | rfl
theorem ef_prog_13_method_3_R (m : MethodId) (x0 : Addr) : entryFrame m #[(.ref x0)] 1 = mkF m 0 #[.val (.ref x0)] [] := by first | (simp [entryFrame, mkF, argsToLocals, Value.category]; done) | rfl
theorem ef_prog_13_method_4_R (m : MethodId) (x0 : Addr) : entryFrame m #[(.ref x0)] 1 = mkF m 0 #[.val (.ref x0)] [] := by first | (simp [entryFrame, mkF, argsToLocals, Value.category]; done) | rfl
theorem ef_code_IIII (m : MethodId) (x0 : Int32) (x1 : Int32) (x2 : Int32) (x3 : Int32) : entryFrame m #[(.int x0), (.int x1), (.int x2), (.int x3)] maxLocals = mkF m 0 #[.val (.int x0), .val (.int x1), .val (.int x2), .val (.int x3), .unset, .unset, .unset, .unset, .unset, .unset, .unset, .unset, .unset, .unset, .unset] [] := by first | (simp [entryFrame, mkF, argsToLocals, Value.category, maxLocals]; done) | rfl
def Qrm5 (Z : State) (b1 : Addr) (x2 : Int32) (x3 : Int32) (x4 : Int32) (h0 : Heap) (v : Option Value) (h : Heap) (L : List Loc) : Prop := v = none ∧ Fr Z.heap.size L ∧ Keep h0 h [b1] ∧ Exa Z h b1 "com/example/fill_realm/fillrealm/Summary" ∧ Fld Z h b1 "com/example/fill_realm/fillrealm/Summary" "created" "I" (.int x2) ∧ Fld Z h b1 "com/example/fill_realm/fillrealm/Summary" "failed" "I" (.int x4) ∧ Fld Z h b1 "com/example/fill_realm/fillrealm/Summary" "skipped" "I" (.int x3)
set_option maxRecDepth 65536 in
set_option maxHeartbeats 40000000 in
theorem rm5 (l : Launch) (Z : State) (a0 : Array Value) (hw : ∀ d ∈ tables_1, d.before a0 Z = true) (ws : List Jvm.Cond) (b1 : Addr) (x2 : Int32) (x3 : Int32) (x4 : Int32) (h0 : Heap) (Z0 : Ext Z.heap h0) (E_b1 : Exa Z h0 b1 "com/example/fill_realm/fillrealm/Summary") (F_b1_created : Fld Z h0 b1 "com/example/fill_realm/fillrealm/Summary" "created" "I" (.int (0 : Int32))) (F_b1_failed : Fld Z h0 b1 "com/example/fill_realm/fillrealm/Summary" "failed" "I" (.int (0 : Int32))) (F_b1_skipped : Fld Z h0 b1 "com/example/fill_realm/fillrealm/Summary" "skipped" "I" (.int (0 : Int32))) (g_b1 : Z.heap.size ≤ b1) (hc2 : ¬ (x2 < (0 : Int32))) (hc3 : ¬ (x3 < (0 : Int32))) (hc4 : ¬ (x4 < (0 : Int32))) :
    own_met l y_0 prog_13_method_1_code 4 none ws ({ frames := 1, cells := 0, slots := 0, locals := 12 } : Room) Z #[(.ref b1), (.int x2), (.int x3), (.int x4)] h0 (Qrm5 Z b1 x2 x3 x4 h0) := by
  refine own_start (plainFor_of_name pn_0) (fun m => ef_prog_13_method_1_RIII m b1 x2 x3 x4) ?_
  intro p e s m below meth c s₁ hx hby hml hown hnm X0 hZ e0 hret hlk
  have N0 := Fr.nil Z.heap.size
  obtain ⟨T6, X6, e6, st6⟩ := initO X0 hx hZ hown (own_w hw 7 rfl) (own_w hw 8 rfl) (own_w hw 9 rfl) e0 (g := (mkF m 1 #[.val (.ref b1), .val (.int x2), .val (.int x3), .val (.int x4)] [(.ref b1)])) rfl (by rw [hml]; rfl) rfl (hb hby d_prog_13_method_1_1) (by decide) (W := 0) (by show 2 * 0 + _ ≤ _; exact Nat.le_of_eq rfl) (by decide)
  obtain ⟨T7, h7, X7, e7, W7, st7⟩ := putF X6 hx hZ hown (host := "") (Or.inl (own_w hw 10 rfl)) Via.refl e6 F_b1_created E_b1 (Or.inr ⟨(own_w hw 11 rfl), rfl, hnm⟩) (own_w hw 2 rfl) (ty := .int) (by decide) rfl rfl (g := (mkF m 34 #[.val (.ref b1), .val (.int x2), .val (.int x3), .val (.int x4)] [(.int x2), (.ref b1)])) rfl rfl (hb hby d_prog_13_method_1_34)
  have K7 : Keep h0 h7 [b1] := (Keep.refl h0 [b1]).wr W7 (Or.inl (List.mem_of_getElem? (i := 0) rfl))
  have XX7 : Ext Z.heap h7 := own_extW Z0 W7 g_b1
  have N7 := Fr.snoc X7 N0 g_b1
  have f8_F_b1_skipped : Fld Z h7 b1 "com/example/fill_realm/fillrealm/Summary" "skipped" "I" (.int (0 : Int32)) := (F_b1_skipped.other W7 (Or.inr (slot_ne (Or.inr (own_w hw 13 rfl)) (Or.inr (own_w hw 11 rfl)) (by decide) (t := .int) (t' := .int) (by decide) (by decide))))
  obtain ⟨T9, h9, X9, e9, W9, st9⟩ := putF X7 hx hZ hown (host := "") (Or.inl (own_w hw 12 rfl)) Via.refl e7 f8_F_b1_skipped (E_b1.wr W7) (Or.inr ⟨(own_w hw 13 rfl), rfl, hnm⟩) (own_w hw 2 rfl) (ty := .int) (by decide) rfl rfl (g := (mkF m 39 #[.val (.ref b1), .val (.int x2), .val (.int x3), .val (.int x4)] [(.int x3), (.ref b1)])) rfl rfl (hb hby d_prog_13_method_1_39)
  have K9 : Keep h0 h9 [b1] := K7.wr W9 (Or.inl (List.mem_of_getElem? (i := 0) rfl))
  have XX9 : Ext Z.heap h9 := own_extW XX7 W9 g_b1
  have N9 := Fr.snoc X9 N7 g_b1
  have f10_F_b1_failed : Fld Z h9 b1 "com/example/fill_realm/fillrealm/Summary" "failed" "I" (.int (0 : Int32)) := ((F_b1_failed.other W7 (Or.inr (slot_ne (Or.inr (own_w hw 15 rfl)) (Or.inr (own_w hw 11 rfl)) (by decide) (t := .int) (t' := .int) (by decide) (by decide)))).other W9 (Or.inr (slot_ne (Or.inr (own_w hw 15 rfl)) (Or.inr (own_w hw 13 rfl)) (by decide) (t := .int) (t' := .int) (by decide) (by decide))))
  obtain ⟨T11, h11, X11, e11, W11, st11⟩ := putF X9 hx hZ hown (host := "") (Or.inl (own_w hw 14 rfl)) Via.refl e9 f10_F_b1_failed ((E_b1.wr W7).wr W9) (Or.inr ⟨(own_w hw 15 rfl), rfl, hnm⟩) (own_w hw 2 rfl) (ty := .int) (by decide) rfl rfl (g := (mkF m 44 #[.val (.ref b1), .val (.int x2), .val (.int x3), .val (.int x4)] [(.int x4), (.ref b1)])) rfl rfl (hb hby d_prog_13_method_1_44)
  have K11 : Keep h0 h11 [b1] := K9.wr W11 (Or.inl (List.mem_of_getElem? (i := 0) rfl))
  have XX11 : Ext Z.heap h11 := own_extW XX9 W11 g_b1
  have N11 := Fr.snoc X11 N9 g_b1
  have f12_F_b1_created : Fld Z h11 b1 "com/example/fill_realm/fillrealm/Summary" "created" "I" (.int x2) := (((F_b1_created.same W7).other W9 (Or.inr (slot_ne (Or.inr (own_w hw 11 rfl)) (Or.inr (own_w hw 13 rfl)) (by decide) (t := .int) (t' := .int) (by decide) (by decide)))).other W11 (Or.inr (slot_ne (Or.inr (own_w hw 11 rfl)) (Or.inr (own_w hw 15 rfl)) (by decide) (t := .int) (t' := .int) (by decide) (by decide))))
  have f13_F_b1_skipped : Fld Z h11 b1 "com/example/fill_realm/fillrealm/Summary" "skipped" "I" (.int x3) := ((f8_F_b1_skipped.same W9).other W11 (Or.inr (slot_ne (Or.inr (own_w hw 13 rfl)) (Or.inr (own_w hw 15 rfl)) (by decide) (t := .int) (t' := .int) (by decide) (by decide))))
  obtain ⟨fs, hr, hrun, hended, hW, hsame⟩ := X11.leave (v := none) (fun _ => rfl) hlk
  refine ⟨_, _, ?_, hrun, hended, _, _, rfl, ?_, ⟨_, rfl⟩, hW, hsame.mono (by decide) (by decide)⟩
  · show own_S p e below s₁ (mkF m 0 #[.val (.ref b1), .val (.int x2), .val (.int x3), .val (.int x4)] []) _
    refine XS.aloadN X0.here hx rfl (hb hby d_prog_13_method_1_0) rfl rfl ?_
    show own_S p e below s₁ (mkF m 1 #[.val (.ref b1), .val (.int x2), .val (.int x3), .val (.int x4)] [(.ref b1)]) _
    refine st6 _ ?_
    show own_S p e below T6 (mkF m 4 #[.val (.ref b1), .val (.int x2), .val (.int x3), .val (.int x4)] []) _
    refine XS.iloadN X6.here hx rfl (hb hby d_prog_13_method_1_4) rfl ?_
    show own_S p e below T6 (mkF m 5 #[.val (.ref b1), .val (.int x2), .val (.int x3), .val (.int x4)] [(.int x2)]) _
    refine XS.ifNo X6.here hx rfl (hb hby d_prog_13_method_1_5) rfl ((if0 _ _).trans (flt hc2).1) ?_
    show own_S p e below T6 (mkF m 8 #[.val (.ref b1), .val (.int x2), .val (.int x3), .val (.int x4)] []) _
    refine XS.iloadN X6.here hx rfl (hb hby d_prog_13_method_1_8) rfl ?_
    show own_S p e below T6 (mkF m 9 #[.val (.ref b1), .val (.int x2), .val (.int x3), .val (.int x4)] [(.int x3)]) _
    refine XS.ifNo X6.here hx rfl (hb hby d_prog_13_method_1_9) rfl ((if0 _ _).trans (flt hc3).1) ?_
    show own_S p e below T6 (mkF m 12 #[.val (.ref b1), .val (.int x2), .val (.int x3), .val (.int x4)] []) _
    refine XS.iloadN X6.here hx rfl (hb hby d_prog_13_method_1_12) rfl ?_
    show own_S p e below T6 (mkF m 13 #[.val (.ref b1), .val (.int x2), .val (.int x3), .val (.int x4)] [(.int x4)]) _
    refine XS.ifYes X6.here hx rfl (pc0 := 13) (pc' := 32) rfl (hb hby d_prog_13_method_1_13) rfl ((if0 _ _).trans (flt hc4).2.1) (by decide) (by decide) ?_
    show own_S p e below T6 (mkF m 32 #[.val (.ref b1), .val (.int x2), .val (.int x3), .val (.int x4)] []) _
    refine XS.aloadN X6.here hx rfl (hb hby d_prog_13_method_1_32) rfl rfl ?_
    show own_S p e below T6 (mkF m 33 #[.val (.ref b1), .val (.int x2), .val (.int x3), .val (.int x4)] [(.ref b1)]) _
    refine XS.iloadN X6.here hx rfl (hb hby d_prog_13_method_1_33) rfl ?_
    show own_S p e below T6 (mkF m 34 #[.val (.ref b1), .val (.int x2), .val (.int x3), .val (.int x4)] [(.int x2), (.ref b1)]) _
    refine st7 _ ?_
    show own_S p e below T7 (mkF m 37 #[.val (.ref b1), .val (.int x2), .val (.int x3), .val (.int x4)] []) _
    refine XS.aloadN X7.here hx rfl (hb hby d_prog_13_method_1_37) rfl rfl ?_
    show own_S p e below T7 (mkF m 38 #[.val (.ref b1), .val (.int x2), .val (.int x3), .val (.int x4)] [(.ref b1)]) _
    refine XS.iloadN X7.here hx rfl (hb hby d_prog_13_method_1_38) rfl ?_
    show own_S p e below T7 (mkF m 39 #[.val (.ref b1), .val (.int x2), .val (.int x3), .val (.int x4)] [(.int x3), (.ref b1)]) _
    refine st9 _ ?_
    show own_S p e below T9 (mkF m 42 #[.val (.ref b1), .val (.int x2), .val (.int x3), .val (.int x4)] []) _
    refine XS.aloadN X9.here hx rfl (hb hby d_prog_13_method_1_42) rfl rfl ?_
    show own_S p e below T9 (mkF m 43 #[.val (.ref b1), .val (.int x2), .val (.int x3), .val (.int x4)] [(.ref b1)]) _
    refine XS.iloadN X9.here hx rfl (hb hby d_prog_13_method_1_43) rfl ?_
    show own_S p e below T9 (mkF m 44 #[.val (.ref b1), .val (.int x2), .val (.int x3), .val (.int x4)] [(.int x4), (.ref b1)]) _
    refine st11 _ ?_
    show own_S p e below T11 (mkF m 47 #[.val (.ref b1), .val (.int x2), .val (.int x3), .val (.int x4)] []) _
    exact X11.returnOut hx hret (hb hby d_prog_13_method_1_47) hr
  · show Qrm5 Z b1 x2 x3 x4 h0 _ T11.heap _
    rw [e11]
    exact ⟨rfl, N11, K11, (((E_b1.wr W7).wr W9).wr W11), f12_F_b1_created, (f10_F_b1_failed.same W11), f13_F_b1_skipped⟩
def Qrm15 (Z : State) (w_CREATED : Addr) (h0 : Heap) (v : Option Value) (h : Heap) (L : List Loc) : Prop := v = some (.ref w_CREATED) ∧ Fr Z.heap.size L ∧ h = h0
set_option maxRecDepth 65536 in
set_option maxHeartbeats 40000000 in
theorem rm15 (l : Launch) (Z : State) (a0 : Array Value) (hw : ∀ d ∈ tables_1, d.before a0 Z = true) (ws : List Jvm.Cond) (w_CREATED : Addr) (h0 : Heap) (Z0 : Ext Z.heap h0) (S_w_CREATED : Sta Z Z.heap "com/example/fill_realm/fillrealm/Outcome" "CREATED" "Lcom/example/fill_realm/fillrealm/Outcome;" (.ref w_CREATED)) :
    own_met l y_1 method_2_code 1 (some (.object "com/example/fill_realm/fillrealm/Outcome")) ws ({ frames := 0, cells := 0, slots := 0, locals := 0 } : Room) Z #[(.int (0 : Int32))] h0 (Qrm15 Z w_CREATED h0) := by
  refine own_start (plainFor_of_name pn_1) (fun m => ef_method_2_I m (0 : Int32)) ?_
  intro p e s m below meth c s₁ hx hby hml hown hnm X0 hZ e0 hret hlk
  have N0 := Fr.nil Z.heap.size
  obtain ⟨T16, X16, e16, st16⟩ := getS2 X0 hx hZ hown (host := "") (Or.inl (own_w hw 59 rfl)) Via.refl e0 (S_w_CREATED.ext Z0) (g := (mkF m 4 #[.val (.int (0 : Int32))] [])) rfl (hb hby d_method_2_4)
  obtain ⟨fs, hr, hrun, hended, hW, hsame⟩ := X16.leave (v := some (.ref w_CREATED)) (fun h => by rw [hret] at h; cases h) hlk
  refine ⟨_, _, ?_, hrun, hended, _, _, rfl, ?_, ⟨_, rfl⟩, hW, hsame.mono (by decide) (by decide)⟩
  · show own_S p e below s₁ (mkF m 0 #[.val (.int (0 : Int32))] []) _
    refine XS.iloadN X0.here hx rfl (hb hby d_method_2_0) rfl ?_
    show own_S p e below s₁ (mkF m 1 #[.val (.int (0 : Int32))] [(.int (0 : Int32))]) _
    refine XS.ifNo X0.here hx rfl (hb hby d_method_2_1) rfl ((if0 _ _).trans (teq (rfl : (0 : Int32) = (0 : Int32))).2) ?_
    show own_S p e below s₁ (mkF m 4 #[.val (.int (0 : Int32))] []) _
    refine st16 _ ?_
    show own_S p e below T16 (mkF m 7 #[.val (.int (0 : Int32))] [(.ref w_CREATED)]) _
    jvm_step X16.here [X16.here.top, hx, (hb hby d_method_2_7), X16.method', hret, Value.isRef, FieldType.isReference]
    first | (intro acts; rw [hr _ acts rfl rfl rfl]) | rw [hr _ _ rfl rfl rfl]
    exact Steps.refl _
  · show Qrm15 Z w_CREATED h0 _ T16.heap _
    rw [e16]
    exact ⟨rfl, N0, rfl⟩
def Qrm23 (Z : State) (w_CREATED : Addr) (h0 : Heap) (v : Option Value) (h : Heap) (L : List Loc) : Prop := v = some (.int (0 : Int32)) ∧ Fr Z.heap.size L ∧ h = h0
set_option maxRecDepth 65536 in
set_option maxHeartbeats 40000000 in
theorem rm23 (l : Launch) (Z : State) (a0 : Array Value) (hw : ∀ d ∈ tables_1, d.before a0 Z = true) (ws : List Jvm.Cond) (w_CREATED : Addr) (h0 : Heap) (Z0 : Ext Z.heap h0) (F_w_CREATED_ordinal : Fld Z Z.heap w_CREATED "java/lang/Enum" "ordinal" "I" (.int (0 : Int32))) :
    own_met l y_2 jdk_37_method_2_code 1 (some .int) ws ({ frames := 0, cells := 0, slots := 0, locals := 0 } : Room) Z #[(.ref w_CREATED)] h0 (Qrm23 Z w_CREATED h0) := by
  refine own_start (plainFor_of_name pn_2) (fun m => ef_jdk_37_method_2_R m w_CREATED) ?_
  intro p e s m below meth c s₁ hx hby hml hown hnm X0 hZ e0 hret hlk
  have N0 := Fr.nil Z.heap.size
  obtain ⟨T24, X24, e24, st24⟩ := getF X0 hx hZ hown (host := "") (Or.inl (own_w hw 38 rfl)) Via.refl e0 (F_w_CREATED_ordinal.ext Z0) (g := (mkF m 1 #[.val (.ref w_CREATED)] [(.ref w_CREATED)])) rfl rfl (hb hby d_jdk_37_method_2_1)
  obtain ⟨fs, hr, hrun, hended, hW, hsame⟩ := X24.leave (v := some (.int (0 : Int32))) (fun h => by rw [hret] at h; cases h) hlk
  refine ⟨_, _, ?_, hrun, hended, _, _, rfl, ?_, ⟨_, rfl⟩, hW, hsame.mono (by decide) (by decide)⟩
  · show own_S p e below s₁ (mkF m 0 #[.val (.ref w_CREATED)] []) _
    refine XS.aloadN X0.here hx rfl (hb hby d_jdk_37_method_2_0) rfl rfl ?_
    show own_S p e below s₁ (mkF m 1 #[.val (.ref w_CREATED)] [(.ref w_CREATED)]) _
    refine st24 _ ?_
    show own_S p e below T24 (mkF m 4 #[.val (.ref w_CREATED)] [(.int (0 : Int32))]) _
    exact retI X24 hx hret (hb hby d_jdk_37_method_2_4) hr
  · show Qrm23 Z w_CREATED h0 _ T24.heap _
    rw [e24]
    exact ⟨rfl, N0, rfl⟩
def Qrm21 (Z : State) (w__SwitchMap_com_example_fill_realm_fillrealm_Outcome : Addr) (cl_w__SwitchMap_com_example_fill_realm_fillrealm_Outcome : Cell) (w_CREATED : Addr) (b1 : Addr) (x18 : Int32) (x19 : Int32) (x20 : Int32) (h0 : Heap) (v : Option Value) (h : Heap) (L : List Loc) : Prop := ∃ b26 : Addr, v = some (.ref b26) ∧ Fr Z.heap.size L ∧ Keep h0 h [] ∧ h0.size ≤ b26 ∧ Exa Z h b26 "com/example/fill_realm/fillrealm/Summary" ∧ Fld Z h b26 "com/example/fill_realm/fillrealm/Summary" "created" "I" (.int (x18 + (1 : Int32))) ∧ Fld Z h b26 "com/example/fill_realm/fillrealm/Summary" "skipped" "I" (.int x19) ∧ Fld Z h b26 "com/example/fill_realm/fillrealm/Summary" "failed" "I" (.int x20)
set_option maxRecDepth 65536 in
set_option maxHeartbeats 40000000 in
theorem rm21 (l : Launch) (Z : State) (a0 : Array Value) (hw : ∀ d ∈ tables_1, d.before a0 Z = true) (ws : List Jvm.Cond) (w__SwitchMap_com_example_fill_realm_fillrealm_Outcome : Addr) (cl_w__SwitchMap_com_example_fill_realm_fillrealm_Outcome : Cell) (w_CREATED : Addr) (b1 : Addr) (x18 : Int32) (x19 : Int32) (x20 : Int32) (h0 : Heap) (Z0 : Ext Z.heap h0) (S_w__SwitchMap_com_example_fill_realm_fillrealm_Outcome : Sta Z Z.heap "com/example/fill_realm/fillrealm/Summary$1" "$SwitchMap$com$example$fill_realm$fillrealm$Outcome" "[I" (.ref w__SwitchMap_com_example_fill_realm_fillrealm_Outcome)) (E_w_CREATED : Exa Z Z.heap w_CREATED "com/example/fill_realm/fillrealm/Outcome") (F_w_CREATED_ordinal : Fld Z Z.heap w_CREATED "java/lang/Enum" "ordinal" "I" (.int (0 : Int32))) (Ar_w__SwitchMap_com_example_fill_realm_fillrealm_Outcome : Arr Z Z.heap w__SwitchMap_com_example_fill_realm_fillrealm_Outcome cl_w__SwitchMap_com_example_fill_realm_fillrealm_Outcome .int) (hin_w__SwitchMap_com_example_fill_realm_fillrealm_Outcome_0 : ¬ ((0 : Int32) < 0 ∨ cl_w__SwitchMap_com_example_fill_realm_fillrealm_Outcome.slots.size ≤ ((0 : Int32)).toNatClampNeg)) (hat_w__SwitchMap_com_example_fill_realm_fillrealm_Outcome_0 : cl_w__SwitchMap_com_example_fill_realm_fillrealm_Outcome.slots[((0 : Int32)).toNatClampNeg]? = some (.int (1 : Int32))) (F_b1_created : Fld Z h0 b1 "com/example/fill_realm/fillrealm/Summary" "created" "I" (.int x18)) (F_b1_failed : Fld Z h0 b1 "com/example/fill_realm/fillrealm/Summary" "failed" "I" (.int x20)) (F_b1_skipped : Fld Z h0 b1 "com/example/fill_realm/fillrealm/Summary" "skipped" "I" (.int x19)) (hc8 : ¬ ((x18 + (1 : Int32)) < (0 : Int32))) (hc9 : ¬ (x19 < (0 : Int32))) (hc10 : ¬ (x20 < (0 : Int32))) :
    own_met l y_4 prog_13_method_6_code 2 (some (.object "com/example/fill_realm/fillrealm/Summary")) ws ({ frames := 2, cells := 1, slots := 3, locals := 28 } : Room) Z #[(.ref b1), (.ref w_CREATED)] h0 (Qrm21 Z w__SwitchMap_com_example_fill_realm_fillrealm_Outcome cl_w__SwitchMap_com_example_fill_realm_fillrealm_Outcome w_CREATED b1 x18 x19 x20 h0) := by
  refine own_start (plainFor_of_name pn_0) (fun m => ef_prog_13_method_6_RR m b1 w_CREATED) ?_
  intro p e s m below meth c s₁ hx hby hml hown hnm X0 hZ e0 hret hlk
  have N0 := Fr.nil Z.heap.size
  obtain ⟨T22, X22, e22, st22⟩ := getS2 X0 hx hZ hown (host := "") (Or.inl (own_w hw 28 rfl)) Via.refl e0 (S_w__SwitchMap_com_example_fill_realm_fillrealm_Outcome.ext Z0) (g := (mkF m 0 #[.val (.ref b1), .val (.ref w_CREATED)] [])) rfl (hb hby d_prog_13_method_6_0)
  obtain ⟨_, T25, Lc25, X25, hQ25, st25⟩ := own_virtualUp (z := y_3) (y := y_2) (owner := "java/lang/Enum") X22 hx hZ hown (own_w hw 31 rfl) (own_w hw 32 rfl) (own_w hw 33 rfl) (own_w hw 35 rfl) (own_w hw 34 rfl) (own_w hw 36 rfl) (own_w hw 37 rfl) (by decide) (rm23 l Z a0 hw [] w_CREATED h0 Z0 F_w_CREATED_ordinal) (by decide) (by decide) e22 (E_w_CREATED.ext Z0) (g := (mkF m 4 #[.val (.ref b1), .val (.ref w_CREATED)] [(.ref w_CREATED), (.ref w__SwitchMap_com_example_fill_realm_fillrealm_Outcome)])) rfl (by rw [hml]; rfl) (argsL := []) (rest := [(.ref w__SwitchMap_com_example_fill_realm_fillrealm_Outcome)]) (lenOf pd_2 rfl) rfl rfl (W := 1) (by show 2 * 0 + _ ≤ _; exact Nat.le_of_eq rfl) (hb hby d_prog_13_method_6_4) (by decide) (by decide)
  obtain ⟨rfl, N25q, e25⟩ := hQ25
  have N25 := Fr.app N0 N25q
  obtain ⟨T26, h26, X26, e26, E26, A26, D26, -, st26⟩ := newO X25 hx hZ hown (own_w hw 40 rfl) (own_w hw 2 rfl) (own_w hw 3 rfl) e25 (g := (mkF m 46 #[.val (.ref b1), .val (.ref w_CREATED)] [])) rfl (hb hby d_prog_13_method_6_46) (by decide) (by decide)
  obtain ⟨b26, g26⟩ : ∃ z, z = h0.size := ⟨_, rfl⟩
  rw [← g26] at A26 D26 st26
  have g_b26 : Z.heap.size ≤ b26 := Nat.le_trans Z0.1 (Nat.le_of_eq g26.symm)
  have sz_b26 : h0.size ≤ b26 := Nat.le_trans (Keep.refl h0 []).1 (Nat.le_of_eq g26.symm)
  have F_b26_created : Fld Z h26 b26 "com/example/fill_realm/fillrealm/Summary" "created" "I" (.int (0 : Int32)) := D26 (Or.inr (own_w hw 11 rfl)) (ty := .int) (by decide)
  have F_b26_skipped : Fld Z h26 b26 "com/example/fill_realm/fillrealm/Summary" "skipped" "I" (.int (0 : Int32)) := D26 (Or.inr (own_w hw 13 rfl)) (ty := .int) (by decide)
  have F_b26_failed : Fld Z h26 b26 "com/example/fill_realm/fillrealm/Summary" "failed" "I" (.int (0 : Int32)) := D26 (Or.inr (own_w hw 15 rfl)) (ty := .int) (by decide)
  have K26 : Keep h0 h26 [] := (Keep.refl h0 []).ext E26
  have XX26 : Ext Z.heap h26 := own_ext2 Z0 E26
  obtain ⟨T27, X27, e27, st27⟩ := getF X26 hx hZ hown (host := "") (Or.inl (own_w hw 10 rfl)) Via.refl e26 (F_b1_created.ext E26) (g := (mkF m 51 #[.val (.ref b1), .val (.ref w_CREATED)] [(.ref b1), (.ref b26), (.ref b26)])) rfl rfl (hb hby d_prog_13_method_6_51)
  obtain ⟨T28, X28, e28, st28⟩ := getF X27 hx hZ hown (host := "") (Or.inl (own_w hw 12 rfl)) Via.refl e27 (F_b1_skipped.ext E26) (g := (mkF m 57 #[.val (.ref b1), .val (.ref w_CREATED)] [(.ref b1), (.int (x18 + (1 : Int32))), (.ref b26), (.ref b26)])) rfl rfl (hb hby d_prog_13_method_6_57)
  obtain ⟨T29, X29, e29, st29⟩ := getF X28 hx hZ hown (host := "") (Or.inl (own_w hw 14 rfl)) Via.refl e28 (F_b1_failed.ext E26) (g := (mkF m 61 #[.val (.ref b1), .val (.ref w_CREATED)] [(.ref b1), (.int x19), (.int (x18 + (1 : Int32))), (.ref b26), (.ref b26)])) rfl rfl (hb hby d_prog_13_method_6_61)
  obtain ⟨_, T30, Lc30, X30, hQ30, st30⟩ := own_special (y := y_0) X29 hx hZ hown rfl (own_w hw 41 rfl) (own_w hw 5 rfl) (own_w hw 3 rfl) (own_w hw 6 rfl) (by decide) (rm5 l Z a0 hw [] b26 (x18 + (1 : Int32)) x19 x20 h26 XX26 A26 F_b26_created F_b26_failed F_b26_skipped g_b26 hc8 hc9 hc10) (by decide) (by decide) e29 (g := (mkF m 64 #[.val (.ref b1), .val (.ref w_CREATED)] [(.int x20), (.int x19), (.int (x18 + (1 : Int32))), (.ref b26), (.ref b26)])) rfl (by rw [hml]; rfl) b26 (argsL := [(.int (x18 + (1 : Int32))), (.int x19), (.int x20)]) (rest := [(.ref b26)]) (lenOf pd_0 rfl) rfl rfl (W := 1) (by show 2 * 0 + _ ≤ _; exact Nat.le_of_eq rfl) (hb hby d_prog_13_method_6_64) (by decide) (by decide)
  obtain ⟨rfl, N30q, K30q, q30_E_b26, q30_F_b26_created, q30_F_b26_failed, q30_F_b26_skipped⟩ := hQ30
  have K30 : Keep h0 T30.heap [] := K26.trans K30q (allS (Or.inr sz_b26) all0)
  have XX30 : Ext Z.heap T30.heap := own_extK XX26 K30q (allS g_b26 all0)
  have N30 := Fr.app N25 N30q
  obtain ⟨fs, hr, hrun, hended, hW, hsame⟩ := X30.leave (v := some (.ref b26)) (fun h => by rw [hret] at h; cases h) hlk
  refine ⟨_, _, ?_, hrun, hended, _, _, rfl, ?_, ⟨_, rfl⟩, hW, hsame.mono (by decide) (by decide)⟩
  · show own_S p e below s₁ (mkF m 0 #[.val (.ref b1), .val (.ref w_CREATED)] []) _
    refine st22 _ ?_
    show own_S p e below T22 (mkF m 3 #[.val (.ref b1), .val (.ref w_CREATED)] [(.ref w__SwitchMap_com_example_fill_realm_fillrealm_Outcome)]) _
    refine XS.aloadN X22.here hx rfl (hb hby d_prog_13_method_6_3) rfl rfl ?_
    show own_S p e below T22 (mkF m 4 #[.val (.ref b1), .val (.ref w_CREATED)] [(.ref w_CREATED), (.ref w__SwitchMap_com_example_fill_realm_fillrealm_Outcome)]) _
    refine st25 _ ?_
    show own_S p e below T25 (mkF m 7 #[.val (.ref b1), .val (.ref w_CREATED)] [(.int (0 : Int32)), (.ref w__SwitchMap_com_example_fill_realm_fillrealm_Outcome)]) _
    refine X25.iaload hx (j := (0 : Int32)) (v := (.int (1 : Int32))) (by rw [e25]; exact (Ar_w__SwitchMap_com_example_fill_realm_fillrealm_Outcome.ext Z0).1) (State.isArrayOf_alike hZ.alike (Ar_w__SwitchMap_com_example_fill_realm_fillrealm_Outcome.ext Z0).2.1) (Ar_w__SwitchMap_com_example_fill_realm_fillrealm_Outcome.ext Z0).2.2 hin_w__SwitchMap_com_example_fill_realm_fillrealm_Outcome_0 hat_w__SwitchMap_com_example_fill_realm_fillrealm_Outcome_0 (g := (mkF m 7 #[.val (.ref b1), .val (.ref w_CREATED)] [(.int (0 : Int32)), (.ref w__SwitchMap_com_example_fill_realm_fillrealm_Outcome)])) rfl rfl (hb hby d_prog_13_method_6_7) _ ?_
    show own_S p e below T25 (mkF m 8 #[.val (.ref b1), .val (.ref w_CREATED)] [(.int (1 : Int32))]) _
    refine XS.tswIn X25.here hx rfl (pc0 := 8) (pc' := 46) (o := 38) rfl (hb hby d_prog_13_method_6_8) rfl (by decide) (by decide) (by decide) (by decide) ?_
    show own_S p e below T25 (mkF m 46 #[.val (.ref b1), .val (.ref w_CREATED)] []) _
    refine st26 _ ?_
    show own_S p e below T26 (mkF m 49 #[.val (.ref b1), .val (.ref w_CREATED)] [(.ref b26)]) _
    refine XS.dup X26.here hx rfl (hb hby d_prog_13_method_6_49) rfl rfl ?_
    show own_S p e below T26 (mkF m 50 #[.val (.ref b1), .val (.ref w_CREATED)] [(.ref b26), (.ref b26)]) _
    refine XS.aloadN X26.here hx rfl (hb hby d_prog_13_method_6_50) rfl rfl ?_
    show own_S p e below T26 (mkF m 51 #[.val (.ref b1), .val (.ref w_CREATED)] [(.ref b1), (.ref b26), (.ref b26)]) _
    refine st27 _ ?_
    show own_S p e below T27 (mkF m 54 #[.val (.ref b1), .val (.ref w_CREATED)] [(.int x18), (.ref b26), (.ref b26)]) _
    refine XS.iconst X27.here hx rfl (hb hby d_prog_13_method_6_54) ?_
    show own_S p e below T27 (mkF m 55 #[.val (.ref b1), .val (.ref w_CREATED)] [(.int (1 : Int32)), (.int x18), (.ref b26), (.ref b26)]) _
    refine XS.iadd X27.here hx rfl (hb hby d_prog_13_method_6_55) rfl ?_
    show own_S p e below T27 (mkF m 56 #[.val (.ref b1), .val (.ref w_CREATED)] [(.int (x18 + (1 : Int32))), (.ref b26), (.ref b26)]) _
    refine XS.aloadN X27.here hx rfl (hb hby d_prog_13_method_6_56) rfl rfl ?_
    show own_S p e below T27 (mkF m 57 #[.val (.ref b1), .val (.ref w_CREATED)] [(.ref b1), (.int (x18 + (1 : Int32))), (.ref b26), (.ref b26)]) _
    refine st28 _ ?_
    show own_S p e below T28 (mkF m 60 #[.val (.ref b1), .val (.ref w_CREATED)] [(.int x19), (.int (x18 + (1 : Int32))), (.ref b26), (.ref b26)]) _
    refine XS.aloadN X28.here hx rfl (hb hby d_prog_13_method_6_60) rfl rfl ?_
    show own_S p e below T28 (mkF m 61 #[.val (.ref b1), .val (.ref w_CREATED)] [(.ref b1), (.int x19), (.int (x18 + (1 : Int32))), (.ref b26), (.ref b26)]) _
    refine st29 _ ?_
    show own_S p e below T29 (mkF m 64 #[.val (.ref b1), .val (.ref w_CREATED)] [(.int x20), (.int x19), (.int (x18 + (1 : Int32))), (.ref b26), (.ref b26)]) _
    refine st30 _ ?_
    show own_S p e below T30 (mkF m 67 #[.val (.ref b1), .val (.ref w_CREATED)] [(.ref b26)]) _
    refine XS.goto X30.here hx rfl (pc0 := 67) (pc' := 115) rfl (hb hby d_prog_13_method_6_67) (by decide) (by decide) ?_
    show own_S p e below T30 (mkF m 115 #[.val (.ref b1), .val (.ref w_CREATED)] [(.ref b26)]) _
    jvm_step X30.here [X30.here.top, hx, (hb hby d_prog_13_method_6_115), X30.method', hret, Value.isRef, FieldType.isReference]
    first | (intro acts; rw [hr _ acts rfl rfl rfl]) | rw [hr _ _ rfl rfl rfl]
    exact Steps.refl _
  · show Qrm21 Z w__SwitchMap_com_example_fill_realm_fillrealm_Outcome cl_w__SwitchMap_com_example_fill_realm_fillrealm_Outcome w_CREATED b1 x18 x19 x20 h0 _ T30.heap _
    exact ⟨b26, rfl, N30, K30, sz_b26, q30_E_b26, q30_F_b26_created, q30_F_b26_skipped, q30_F_b26_failed⟩
def Qrm36 (Z : State) (b32 : Addr) (x33 : Int32) (h0 : Heap) (v : Option Value) (h : Heap) (L : List Loc) : Prop := v = some (.int x33) ∧ Fr Z.heap.size L ∧ h = h0
set_option maxRecDepth 65536 in
set_option maxHeartbeats 40000000 in
theorem rm36 (l : Launch) (Z : State) (a0 : Array Value) (hw : ∀ d ∈ tables_1, d.before a0 Z = true) (ws : List Jvm.Cond) (b32 : Addr) (x33 : Int32) (h0 : Heap) (Z0 : Ext Z.heap h0) (F_b32_created : Fld Z h0 b32 "com/example/fill_realm/fillrealm/Summary" "created" "I" (.int x33)) :
    own_met l y_5 prog_13_method_2_code 1 (some .int) ws ({ frames := 0, cells := 0, slots := 0, locals := 0 } : Room) Z #[(.ref b32)] h0 (Qrm36 Z b32 x33 h0) := by
  refine own_start (plainFor_of_name pn_0) (fun m => ef_prog_13_method_2_R m b32) ?_
  intro p e s m below meth c s₁ hx hby hml hown hnm X0 hZ e0 hret hlk
  have N0 := Fr.nil Z.heap.size
  obtain ⟨T37, X37, e37, st37⟩ := getF X0 hx hZ hown (host := "") (Or.inl (own_w hw 10 rfl)) Via.refl e0 F_b32_created (g := (mkF m 1 #[.val (.ref b32)] [(.ref b32)])) rfl rfl (hb hby d_prog_13_method_2_1)
  obtain ⟨fs, hr, hrun, hended, hW, hsame⟩ := X37.leave (v := some (.int x33)) (fun h => by rw [hret] at h; cases h) hlk
  refine ⟨_, _, ?_, hrun, hended, _, _, rfl, ?_, ⟨_, rfl⟩, hW, hsame.mono (by decide) (by decide)⟩
  · show own_S p e below s₁ (mkF m 0 #[.val (.ref b32)] []) _
    refine XS.aloadN X0.here hx rfl (hb hby d_prog_13_method_2_0) rfl rfl ?_
    show own_S p e below s₁ (mkF m 1 #[.val (.ref b32)] [(.ref b32)]) _
    refine st37 _ ?_
    show own_S p e below T37 (mkF m 4 #[.val (.ref b32)] [(.int x33)]) _
    exact retI X37 hx hret (hb hby d_prog_13_method_2_4) hr
  · show Qrm36 Z b32 x33 h0 _ T37.heap _
    rw [e37]
    exact ⟨rfl, N0, rfl⟩
def Qrm42 (Z : State) (b32 : Addr) (x40 : Int32) (h0 : Heap) (v : Option Value) (h : Heap) (L : List Loc) : Prop := v = some (.int x40) ∧ Fr Z.heap.size L ∧ h = h0
set_option maxRecDepth 65536 in
set_option maxHeartbeats 40000000 in
theorem rm42 (l : Launch) (Z : State) (a0 : Array Value) (hw : ∀ d ∈ tables_1, d.before a0 Z = true) (ws : List Jvm.Cond) (b32 : Addr) (x40 : Int32) (h0 : Heap) (Z0 : Ext Z.heap h0) (F_b32_skipped : Fld Z h0 b32 "com/example/fill_realm/fillrealm/Summary" "skipped" "I" (.int x40)) :
    own_met l y_6 prog_13_method_3_code 1 (some .int) ws ({ frames := 0, cells := 0, slots := 0, locals := 0 } : Room) Z #[(.ref b32)] h0 (Qrm42 Z b32 x40 h0) := by
  refine own_start (plainFor_of_name pn_0) (fun m => ef_prog_13_method_3_R m b32) ?_
  intro p e s m below meth c s₁ hx hby hml hown hnm X0 hZ e0 hret hlk
  have N0 := Fr.nil Z.heap.size
  obtain ⟨T43, X43, e43, st43⟩ := getF X0 hx hZ hown (host := "") (Or.inl (own_w hw 12 rfl)) Via.refl e0 F_b32_skipped (g := (mkF m 1 #[.val (.ref b32)] [(.ref b32)])) rfl rfl (hb hby d_prog_13_method_3_1)
  obtain ⟨fs, hr, hrun, hended, hW, hsame⟩ := X43.leave (v := some (.int x40)) (fun h => by rw [hret] at h; cases h) hlk
  refine ⟨_, _, ?_, hrun, hended, _, _, rfl, ?_, ⟨_, rfl⟩, hW, hsame.mono (by decide) (by decide)⟩
  · show own_S p e below s₁ (mkF m 0 #[.val (.ref b32)] []) _
    refine XS.aloadN X0.here hx rfl (hb hby d_prog_13_method_3_0) rfl rfl ?_
    show own_S p e below s₁ (mkF m 1 #[.val (.ref b32)] [(.ref b32)]) _
    refine st43 _ ?_
    show own_S p e below T43 (mkF m 4 #[.val (.ref b32)] [(.int x40)]) _
    exact retI X43 hx hret (hb hby d_prog_13_method_3_4) hr
  · show Qrm42 Z b32 x40 h0 _ T43.heap _
    rw [e43]
    exact ⟨rfl, N0, rfl⟩
def Qrm48 (Z : State) (b32 : Addr) (x47 : Int32) (h0 : Heap) (v : Option Value) (h : Heap) (L : List Loc) : Prop := v = some (.int x47) ∧ Fr Z.heap.size L ∧ h = h0
set_option maxRecDepth 65536 in
set_option maxHeartbeats 40000000 in
theorem rm48 (l : Launch) (Z : State) (a0 : Array Value) (hw : ∀ d ∈ tables_1, d.before a0 Z = true) (ws : List Jvm.Cond) (b32 : Addr) (x47 : Int32) (h0 : Heap) (Z0 : Ext Z.heap h0) (F_b32_failed : Fld Z h0 b32 "com/example/fill_realm/fillrealm/Summary" "failed" "I" (.int x47)) :
    own_met l y_7 prog_13_method_4_code 1 (some .int) ws ({ frames := 0, cells := 0, slots := 0, locals := 0 } : Room) Z #[(.ref b32)] h0 (Qrm48 Z b32 x47 h0) := by
  refine own_start (plainFor_of_name pn_0) (fun m => ef_prog_13_method_4_R m b32) ?_
  intro p e s m below meth c s₁ hx hby hml hown hnm X0 hZ e0 hret hlk
  have N0 := Fr.nil Z.heap.size
  obtain ⟨T49, X49, e49, st49⟩ := getF X0 hx hZ hown (host := "") (Or.inl (own_w hw 14 rfl)) Via.refl e0 F_b32_failed (g := (mkF m 1 #[.val (.ref b32)] [(.ref b32)])) rfl rfl (hb hby d_prog_13_method_4_1)
  obtain ⟨fs, hr, hrun, hended, hW, hsame⟩ := X49.leave (v := some (.int x47)) (fun h => by rw [hret] at h; cases h) hlk
  refine ⟨_, _, ?_, hrun, hended, _, _, rfl, ?_, ⟨_, rfl⟩, hW, hsame.mono (by decide) (by decide)⟩
  · show own_S p e below s₁ (mkF m 0 #[.val (.ref b32)] []) _
    refine XS.aloadN X0.here hx rfl (hb hby d_prog_13_method_4_0) rfl rfl ?_
    show own_S p e below s₁ (mkF m 1 #[.val (.ref b32)] [(.ref b32)]) _
    refine st49 _ ?_
    show own_S p e below T49 (mkF m 4 #[.val (.ref b32)] [(.int x47)]) _
    exact retI X49 hx hret (hb hby d_prog_13_method_4_4) hr
  · show Qrm48 Z b32 x47 h0 _ T49.heap _
    rw [e49]
    exact ⟨rfl, N0, rfl⟩
def Qrm0_0 (Z : State) (w__SwitchMap_com_example_fill_realm_fillrealm_Outcome : Addr) (cl_w__SwitchMap_com_example_fill_realm_fillrealm_Outcome : Cell) (w_CREATED : Addr) (p1 : Int32) (p2 : Int32) (p3 : Int32) (p4 : Int32) (h0 : Heap) (v : Option Value) (h : Heap) (L : List Loc) : Prop := v = some (.int 1) ∧ Fr Z.heap.size L
set_option maxRecDepth 65536 in
set_option maxHeartbeats 40000000 in
theorem rm0_0 (l : Launch) (Z : State) (a0 : Array Value) (hw : ∀ d ∈ tables_1, d.before a0 Z = true) (ws : List Jvm.Cond) (w__SwitchMap_com_example_fill_realm_fillrealm_Outcome : Addr) (cl_w__SwitchMap_com_example_fill_realm_fillrealm_Outcome : Cell) (w_CREATED : Addr) (p1 : Int32) (p2 : Int32) (p3 : Int32) (p4 : Int32) (h0 : Heap) (Z0 : Ext Z.heap h0) (S_w_CREATED : Sta Z Z.heap "com/example/fill_realm/fillrealm/Outcome" "CREATED" "Lcom/example/fill_realm/fillrealm/Outcome;" (.ref w_CREATED)) (S_w__SwitchMap_com_example_fill_realm_fillrealm_Outcome : Sta Z Z.heap "com/example/fill_realm/fillrealm/Summary$1" "$SwitchMap$com$example$fill_realm$fillrealm$Outcome" "[I" (.ref w__SwitchMap_com_example_fill_realm_fillrealm_Outcome)) (E_w_CREATED : Exa Z Z.heap w_CREATED "com/example/fill_realm/fillrealm/Outcome") (F_w_CREATED_ordinal : Fld Z Z.heap w_CREATED "java/lang/Enum" "ordinal" "I" (.int (0 : Int32))) (Ar_w__SwitchMap_com_example_fill_realm_fillrealm_Outcome : Arr Z Z.heap w__SwitchMap_com_example_fill_realm_fillrealm_Outcome cl_w__SwitchMap_com_example_fill_realm_fillrealm_Outcome .int) (hin_w__SwitchMap_com_example_fill_realm_fillrealm_Outcome_0 : ¬ ((0 : Int32) < 0 ∨ cl_w__SwitchMap_com_example_fill_realm_fillrealm_Outcome.slots.size ≤ ((0 : Int32)).toNatClampNeg)) (hat_w__SwitchMap_com_example_fill_realm_fillrealm_Outcome_0 : cl_w__SwitchMap_com_example_fill_realm_fillrealm_Outcome.slots[((0 : Int32)).toNatClampNeg]? = some (.int (1 : Int32))) (hc1 : ((p4 &&& (2147483647 : Int32)) % (3 : Int32)) = (0 : Int32)) (hc5 : ¬ (((p1 &&& (2147483647 : Int32)) % (2147483647 : Int32)) < (0 : Int32))) (hc6 : ¬ ((p2 &&& (2147483647 : Int32)) < (0 : Int32))) (hc7 : ¬ ((p3 &&& (2147483647 : Int32)) < (0 : Int32))) (hc11 : ¬ ((((p1 &&& (2147483647 : Int32)) % (2147483647 : Int32)) + (1 : Int32)) < (0 : Int32))) :
    own_met l x code maxLocals ret ws room_1 Z #[(.int p1), (.int p2), (.int p3), (.int p4)] h0 (Qrm0_0 Z w__SwitchMap_com_example_fill_realm_fillrealm_Outcome cl_w__SwitchMap_com_example_fill_realm_fillrealm_Outcome w_CREATED p1 p2 p3 p4 h0) := by
  refine own_start (plainFor_of_name pn_1) (fun m => ef_code_IIII m p1 p2 p3 p4) ?_
  intro p e s m below meth c s₁ hx hby hml hown hnm X0 hZ e0 hret hlk
  have N0 := Fr.nil Z.heap.size
  obtain ⟨T1, h1, X1, e1, E1, A1, D1, -, st1⟩ := newO X0 hx hZ hown (own_w hw 1 rfl) (own_w hw 2 rfl) (own_w hw 3 rfl) e0 (g := (mkF m 64 #[.val (.int p1), .val (.int p2), .val (.int p3), .val (.int p4), .val (.int (0 : Int32)), .val (.int ((p1 &&& (2147483647 : Int32)) % (2147483647 : Int32))), .val (.int (p2 &&& (2147483647 : Int32))), .val (.int (p3 &&& (2147483647 : Int32))), .unset, .unset, .unset, .unset, .unset, .unset, .unset] [])) rfl (hb hby at_64) (by decide) (by decide)
  obtain ⟨b1, g1⟩ : ∃ z, z = h0.size := ⟨_, rfl⟩
  rw [← g1] at A1 D1 st1
  have g_b1 : Z.heap.size ≤ b1 := Nat.le_trans Z0.1 (Nat.le_of_eq g1.symm)
  have sz_b1 : h0.size ≤ b1 := Nat.le_trans (Keep.refl h0 []).1 (Nat.le_of_eq g1.symm)
  have F_b1_created : Fld Z h1 b1 "com/example/fill_realm/fillrealm/Summary" "created" "I" (.int (0 : Int32)) := D1 (Or.inr (own_w hw 11 rfl)) (ty := .int) (by decide)
  have F_b1_skipped : Fld Z h1 b1 "com/example/fill_realm/fillrealm/Summary" "skipped" "I" (.int (0 : Int32)) := D1 (Or.inr (own_w hw 13 rfl)) (ty := .int) (by decide)
  have F_b1_failed : Fld Z h1 b1 "com/example/fill_realm/fillrealm/Summary" "failed" "I" (.int (0 : Int32)) := D1 (Or.inr (own_w hw 15 rfl)) (ty := .int) (by decide)
  have K1 : Keep h0 h1 [] := (Keep.refl h0 []).ext E1
  have XX1 : Ext Z.heap h1 := own_ext2 Z0 E1
  obtain ⟨_, T14, Lc14, X14, hQ14, st14⟩ := own_special (y := y_0) X1 hx hZ hown rfl (own_w hw 4 rfl) (own_w hw 5 rfl) (own_w hw 3 rfl) (own_w hw 6 rfl) (by decide) (rm5 l Z a0 hw [] b1 ((p1 &&& (2147483647 : Int32)) % (2147483647 : Int32)) (p2 &&& (2147483647 : Int32)) (p3 &&& (2147483647 : Int32)) h1 XX1 A1 F_b1_created F_b1_failed F_b1_skipped g_b1 hc5 hc6 hc7) (by decide) (by decide) e1 (g := (mkF m 74 #[.val (.int p1), .val (.int p2), .val (.int p3), .val (.int p4), .val (.int (0 : Int32)), .val (.int ((p1 &&& (2147483647 : Int32)) % (2147483647 : Int32))), .val (.int (p2 &&& (2147483647 : Int32))), .val (.int (p3 &&& (2147483647 : Int32))), .unset, .unset, .unset, .unset, .unset, .unset, .unset] [(.int (p3 &&& (2147483647 : Int32))), (.int (p2 &&& (2147483647 : Int32))), (.int ((p1 &&& (2147483647 : Int32)) % (2147483647 : Int32))), (.ref b1), (.ref b1)])) rfl (by rw [hml]; rfl) b1 (argsL := [(.int ((p1 &&& (2147483647 : Int32)) % (2147483647 : Int32))), (.int (p2 &&& (2147483647 : Int32))), (.int (p3 &&& (2147483647 : Int32)))]) (rest := [(.ref b1)]) (lenOf pd_0 rfl) rfl rfl (W := 1) (by show 2 * 0 + _ ≤ _; exact Nat.le_of_eq rfl) (hb hby at_74) (by decide) (by decide)
  obtain ⟨rfl, N14q, K14q, q14_E_b1, q14_F_b1_created, q14_F_b1_failed, q14_F_b1_skipped⟩ := hQ14
  have K14 : Keep h0 T14.heap [] := K1.trans K14q (allS (Or.inr sz_b1) all0)
  have XX14 : Ext Z.heap T14.heap := own_extK XX1 K14q (allS g_b1 all0)
  have N14 := Fr.app N0 N14q
  obtain ⟨_, T17, Lc17, X17, hQ17, st17⟩ := own_static (y := y_1) X14 hx hZ hown (own_w hw 16 rfl) (own_w hw 17 rfl) (own_w hw 18 rfl) (own_w hw 19 rfl) (by decide) (rm15 l Z a0 hw [] w_CREATED T14.heap XX14 S_w_CREATED) (by decide) (by decide) rfl (g := (mkF m 83 #[.val (.int p1), .val (.int p2), .val (.int p3), .val (.int p4), .val (.int (0 : Int32)), .val (.int ((p1 &&& (2147483647 : Int32)) % (2147483647 : Int32))), .val (.int (p2 &&& (2147483647 : Int32))), .val (.int (p3 &&& (2147483647 : Int32))), .val (.ref b1), .unset, .unset, .unset, .unset, .unset, .unset] [(.int (0 : Int32)), (.ref b1)])) rfl (by rw [hml]; rfl) (argsL := [(.int (0 : Int32))]) (rest := [(.ref b1)]) (lenOf pd_1 rfl) rfl rfl (W := 1) (by show 2 * 0 + _ ≤ _; exact Nat.le_of_eq rfl) (hb hby at_83) (by decide) (by decide)
  obtain ⟨rfl, N17q, e17⟩ := hQ17
  have N17 := Fr.app N14 N17q
  obtain ⟨_, T31, Lc31, X31, hQ31, st31⟩ := own_virtual (y := y_4) X17 hx hZ hown (own_w hw 23 rfl) (own_w hw 24 rfl) (own_w hw 26 rfl) (own_w hw 25 rfl) (own_w hw 3 rfl) (own_w hw 27 rfl) (by decide) (rm21 l Z a0 hw [] w__SwitchMap_com_example_fill_realm_fillrealm_Outcome cl_w__SwitchMap_com_example_fill_realm_fillrealm_Outcome w_CREATED b1 ((p1 &&& (2147483647 : Int32)) % (2147483647 : Int32)) (p2 &&& (2147483647 : Int32)) (p3 &&& (2147483647 : Int32)) T14.heap XX14 S_w__SwitchMap_com_example_fill_realm_fillrealm_Outcome E_w_CREATED F_w_CREATED_ordinal Ar_w__SwitchMap_com_example_fill_realm_fillrealm_Outcome hin_w__SwitchMap_com_example_fill_realm_fillrealm_Outcome_0 hat_w__SwitchMap_com_example_fill_realm_fillrealm_Outcome_0 q14_F_b1_created q14_F_b1_failed q14_F_b1_skipped hc11 hc6 hc7) (by decide) (by decide) e17 q14_E_b1 (g := (mkF m 86 #[.val (.int p1), .val (.int p2), .val (.int p3), .val (.int p4), .val (.int (0 : Int32)), .val (.int ((p1 &&& (2147483647 : Int32)) % (2147483647 : Int32))), .val (.int (p2 &&& (2147483647 : Int32))), .val (.int (p3 &&& (2147483647 : Int32))), .val (.ref b1), .unset, .unset, .unset, .unset, .unset, .unset] [(.ref w_CREATED), (.ref b1)])) rfl (by rw [hml]; rfl) (argsL := [(.ref w_CREATED)]) (rest := []) (lenOf pd_3 rfl) rfl rfl (W := 0) (by show 2 * 0 + _ ≤ _; exact Nat.le_of_eq rfl) (hb hby at_86) (by decide) (by decide)
  obtain ⟨b32, rfl, N31q, K31q, szn_b32, q31_E_b32, q31_F_b32_created, q31_F_b32_skipped, q31_F_b32_failed⟩ := hQ31
  have g_b32 : Z.heap.size ≤ b32 := Nat.le_trans XX14.1 szn_b32
  have sz_b32 : h0.size ≤ b32 := Nat.le_trans K14.1 szn_b32
  have K31 : Keep h0 T31.heap [] := K14.trans K31q all0
  have XX31 : Ext Z.heap T31.heap := own_extK XX14 K31q all0
  have N31 := Fr.app N17 N31q
  obtain ⟨_, T38, Lc38, X38, hQ38, st38⟩ := own_virtual (y := y_5) X31 hx hZ hown (own_w hw 42 rfl) (own_w hw 43 rfl) (own_w hw 45 rfl) (own_w hw 44 rfl) (own_w hw 3 rfl) (own_w hw 46 rfl) (by decide) (rm36 l Z a0 hw [] b32 (((p1 &&& (2147483647 : Int32)) % (2147483647 : Int32)) + (1 : Int32)) T31.heap XX31 q31_F_b32_created) (by decide) (by decide) rfl q31_E_b32 (g := (mkF m 140 #[.val (.int p1), .val (.int p2), .val (.int p3), .val (.int p4), .val (.int (0 : Int32)), .val (.int ((p1 &&& (2147483647 : Int32)) % (2147483647 : Int32))), .val (.int (p2 &&& (2147483647 : Int32))), .val (.int (p3 &&& (2147483647 : Int32))), .val (.ref b1), .val (.ref b32), .val (.int (((p1 &&& (2147483647 : Int32)) % (2147483647 : Int32)) + (1 : Int32))), .val (.int (p2 &&& (2147483647 : Int32))), .val (.int (p3 &&& (2147483647 : Int32))), .unset, .unset] [(.ref b32)])) rfl (by rw [hml]; rfl) (argsL := []) (rest := []) (lenOf pd_2 rfl) rfl rfl (W := 0) (by show 2 * 0 + _ ≤ _; exact Nat.le_of_eq rfl) (hb hby at_140) (by decide) (by decide)
  obtain ⟨rfl, N38q, e38⟩ := hQ38
  have N38 := Fr.app N31 N38q
  obtain ⟨_, T44, Lc44, X44, hQ44, st44⟩ := own_virtual (y := y_6) X38 hx hZ hown (own_w hw 47 rfl) (own_w hw 48 rfl) (own_w hw 50 rfl) (own_w hw 49 rfl) (own_w hw 3 rfl) (own_w hw 51 rfl) (by decide) (rm42 l Z a0 hw [] b32 (p2 &&& (2147483647 : Int32)) T31.heap XX31 q31_F_b32_skipped) (by decide) (by decide) e38 q31_E_b32 (g := (mkF m 150 #[.val (.int p1), .val (.int p2), .val (.int p3), .val (.int p4), .val (.int (0 : Int32)), .val (.int ((p1 &&& (2147483647 : Int32)) % (2147483647 : Int32))), .val (.int (p2 &&& (2147483647 : Int32))), .val (.int (p3 &&& (2147483647 : Int32))), .val (.ref b1), .val (.ref b32), .val (.int (((p1 &&& (2147483647 : Int32)) % (2147483647 : Int32)) + (1 : Int32))), .val (.int (p2 &&& (2147483647 : Int32))), .val (.int (p3 &&& (2147483647 : Int32))), .unset, .unset] [(.ref b32)])) rfl (by rw [hml]; rfl) (argsL := []) (rest := []) (lenOf pd_2 rfl) rfl rfl (W := 0) (by show 2 * 0 + _ ≤ _; exact Nat.le_of_eq rfl) (hb hby at_150) (by decide) (by decide)
  obtain ⟨rfl, N44q, e44⟩ := hQ44
  have N44 := Fr.app N38 N44q
  obtain ⟨_, T50, Lc50, X50, hQ50, st50⟩ := own_virtual (y := y_7) X44 hx hZ hown (own_w hw 52 rfl) (own_w hw 53 rfl) (own_w hw 55 rfl) (own_w hw 54 rfl) (own_w hw 3 rfl) (own_w hw 56 rfl) (by decide) (rm48 l Z a0 hw [] b32 (p3 &&& (2147483647 : Int32)) T31.heap XX31 q31_F_b32_failed) (by decide) (by decide) e44 q31_E_b32 (g := (mkF m 160 #[.val (.int p1), .val (.int p2), .val (.int p3), .val (.int p4), .val (.int (0 : Int32)), .val (.int ((p1 &&& (2147483647 : Int32)) % (2147483647 : Int32))), .val (.int (p2 &&& (2147483647 : Int32))), .val (.int (p3 &&& (2147483647 : Int32))), .val (.ref b1), .val (.ref b32), .val (.int (((p1 &&& (2147483647 : Int32)) % (2147483647 : Int32)) + (1 : Int32))), .val (.int (p2 &&& (2147483647 : Int32))), .val (.int (p3 &&& (2147483647 : Int32))), .unset, .unset] [(.ref b32)])) rfl (by rw [hml]; rfl) (argsL := []) (rest := []) (lenOf pd_2 rfl) rfl rfl (W := 0) (by show 2 * 0 + _ ≤ _; exact Nat.le_of_eq rfl) (hb hby at_160) (by decide) (by decide)
  obtain ⟨rfl, N50q, e50⟩ := hQ50
  have N50 := Fr.app N44 N50q
  obtain ⟨_, T51, Lc51, X51, hQ51, st51⟩ := own_virtual (y := y_5) X50 hx hZ hown (own_w hw 42 rfl) (own_w hw 43 rfl) (own_w hw 45 rfl) (own_w hw 44 rfl) (own_w hw 3 rfl) (own_w hw 46 rfl) (by decide) (rm36 l Z a0 hw [] b1 ((p1 &&& (2147483647 : Int32)) % (2147483647 : Int32)) T31.heap XX31 (q14_F_b1_created.keep K31q nin0)) (by decide) (by decide) e50 (q14_E_b1.keep K31q) (g := (mkF m 177 #[.val (.int p1), .val (.int p2), .val (.int p3), .val (.int p4), .val (.int (0 : Int32)), .val (.int ((p1 &&& (2147483647 : Int32)) % (2147483647 : Int32))), .val (.int (p2 &&& (2147483647 : Int32))), .val (.int (p3 &&& (2147483647 : Int32))), .val (.ref b1), .val (.ref b32), .val (.int (((p1 &&& (2147483647 : Int32)) % (2147483647 : Int32)) + (1 : Int32))), .val (.int (p2 &&& (2147483647 : Int32))), .val (.int (p3 &&& (2147483647 : Int32))), .val (.int (1 : Int32)), .unset] [(.ref b1)])) rfl (by rw [hml]; rfl) (argsL := []) (rest := []) (lenOf pd_2 rfl) rfl rfl (W := 0) (by show 2 * 0 + _ ≤ _; exact Nat.le_of_eq rfl) (hb hby at_177) (by decide) (by decide)
  obtain ⟨rfl, N51q, e51⟩ := hQ51
  have N51 := Fr.app N50 N51q
  obtain ⟨_, T52, Lc52, X52, hQ52, st52⟩ := own_virtual (y := y_6) X51 hx hZ hown (own_w hw 47 rfl) (own_w hw 48 rfl) (own_w hw 50 rfl) (own_w hw 49 rfl) (own_w hw 3 rfl) (own_w hw 51 rfl) (by decide) (rm42 l Z a0 hw [] b1 (p2 &&& (2147483647 : Int32)) T31.heap XX31 (q14_F_b1_skipped.keep K31q nin0)) (by decide) (by decide) e51 (q14_E_b1.keep K31q) (g := (mkF m 187 #[.val (.int p1), .val (.int p2), .val (.int p3), .val (.int p4), .val (.int (0 : Int32)), .val (.int ((p1 &&& (2147483647 : Int32)) % (2147483647 : Int32))), .val (.int (p2 &&& (2147483647 : Int32))), .val (.int (p3 &&& (2147483647 : Int32))), .val (.ref b1), .val (.ref b32), .val (.int (((p1 &&& (2147483647 : Int32)) % (2147483647 : Int32)) + (1 : Int32))), .val (.int (p2 &&& (2147483647 : Int32))), .val (.int (p3 &&& (2147483647 : Int32))), .val (.int (1 : Int32)), .unset] [(.ref b1)])) rfl (by rw [hml]; rfl) (argsL := []) (rest := []) (lenOf pd_2 rfl) rfl rfl (W := 0) (by show 2 * 0 + _ ≤ _; exact Nat.le_of_eq rfl) (hb hby at_187) (by decide) (by decide)
  obtain ⟨rfl, N52q, e52⟩ := hQ52
  have N52 := Fr.app N51 N52q
  obtain ⟨_, T53, Lc53, X53, hQ53, st53⟩ := own_virtual (y := y_7) X52 hx hZ hown (own_w hw 52 rfl) (own_w hw 53 rfl) (own_w hw 55 rfl) (own_w hw 54 rfl) (own_w hw 3 rfl) (own_w hw 56 rfl) (by decide) (rm48 l Z a0 hw [] b1 (p3 &&& (2147483647 : Int32)) T31.heap XX31 (q14_F_b1_failed.keep K31q nin0)) (by decide) (by decide) e52 (q14_E_b1.keep K31q) (g := (mkF m 197 #[.val (.int p1), .val (.int p2), .val (.int p3), .val (.int p4), .val (.int (0 : Int32)), .val (.int ((p1 &&& (2147483647 : Int32)) % (2147483647 : Int32))), .val (.int (p2 &&& (2147483647 : Int32))), .val (.int (p3 &&& (2147483647 : Int32))), .val (.ref b1), .val (.ref b32), .val (.int (((p1 &&& (2147483647 : Int32)) % (2147483647 : Int32)) + (1 : Int32))), .val (.int (p2 &&& (2147483647 : Int32))), .val (.int (p3 &&& (2147483647 : Int32))), .val (.int (1 : Int32)), .unset] [(.ref b1)])) rfl (by rw [hml]; rfl) (argsL := []) (rest := []) (lenOf pd_2 rfl) rfl rfl (W := 0) (by show 2 * 0 + _ ≤ _; exact Nat.le_of_eq rfl) (hb hby at_197) (by decide) (by decide)
  obtain ⟨rfl, N53q, e53⟩ := hQ53
  have N53 := Fr.app N52 N53q
  obtain ⟨fs, hr, hrun, hended, hW, hsame⟩ := X53.leave (v := some (.int (1 : Int32))) (fun h => by rw [hret] at h; cases h) hlk
  refine ⟨_, _, ?_, hrun, hended, _, _, rfl, ?_, ⟨_, rfl⟩, hW, hsame.mono (by decide) (by decide)⟩
  · show own_S p e below s₁ (mkF m 0 #[.val (.int p1), .val (.int p2), .val (.int p3), .val (.int p4), .unset, .unset, .unset, .unset, .unset, .unset, .unset, .unset, .unset, .unset, .unset] []) _
    refine XS.iloadN X0.here hx rfl (hb hby at_0) rfl ?_
    show own_S p e below s₁ (mkF m 1 #[.val (.int p1), .val (.int p2), .val (.int p3), .val (.int p4), .unset, .unset, .unset, .unset, .unset, .unset, .unset, .unset, .unset, .unset, .unset] [(.int p4)]) _
    refine X0.ldcInt hx hown (mvT hZ (own_w hw 0 rfl)) (g := (mkF m 1 #[.val (.int p1), .val (.int p2), .val (.int p3), .val (.int p4), .unset, .unset, .unset, .unset, .unset, .unset, .unset, .unset, .unset, .unset, .unset] [(.int p4)])) rfl (hb hby at_1) _ ?_
    show own_S p e below s₁ (mkF m 3 #[.val (.int p1), .val (.int p2), .val (.int p3), .val (.int p4), .unset, .unset, .unset, .unset, .unset, .unset, .unset, .unset, .unset, .unset, .unset] [(.int (2147483647 : Int32)), (.int p4)]) _
    refine XS.iand X0.here hx rfl (hb hby at_3) rfl ?_
    show own_S p e below s₁ (mkF m 4 #[.val (.int p1), .val (.int p2), .val (.int p3), .val (.int p4), .unset, .unset, .unset, .unset, .unset, .unset, .unset, .unset, .unset, .unset, .unset] [(.int (p4 &&& (2147483647 : Int32)))]) _
    refine XS.iconst X0.here hx rfl (hb hby at_4) ?_
    show own_S p e below s₁ (mkF m 5 #[.val (.int p1), .val (.int p2), .val (.int p3), .val (.int p4), .unset, .unset, .unset, .unset, .unset, .unset, .unset, .unset, .unset, .unset, .unset] [(.int (3 : Int32)), (.int (p4 &&& (2147483647 : Int32)))]) _
    refine iremM X0 hx rfl (hb hby at_5) rfl (by decide) ?_
    show own_S p e below s₁ (mkF m 6 #[.val (.int p1), .val (.int p2), .val (.int p3), .val (.int p4), .unset, .unset, .unset, .unset, .unset, .unset, .unset, .unset, .unset, .unset, .unset] [(.int ((p4 &&& (2147483647 : Int32)) % (3 : Int32)))]) _
    rw [hc1]
    show own_S p e below s₁ (mkF m 6 #[.val (.int p1), .val (.int p2), .val (.int p3), .val (.int p4), .unset, .unset, .unset, .unset, .unset, .unset, .unset, .unset, .unset, .unset, .unset] [(.int (0 : Int32))]) _
    refine XS.istore X0.here hx rfl (hb hby at_6) rfl (l' := #[.val (.int p1), .val (.int p2), .val (.int p3), .val (.int p4), .val (.int (0 : Int32)), .unset, .unset, .unset, .unset, .unset, .unset, .unset, .unset, .unset, .unset]) rfl ?_
    show own_S p e below s₁ (mkF m 8 #[.val (.int p1), .val (.int p2), .val (.int p3), .val (.int p4), .val (.int (0 : Int32)), .unset, .unset, .unset, .unset, .unset, .unset, .unset, .unset, .unset, .unset] []) _
    refine XS.iloadN X0.here hx rfl (hb hby at_8) rfl ?_
    show own_S p e below s₁ (mkF m 9 #[.val (.int p1), .val (.int p2), .val (.int p3), .val (.int p4), .val (.int (0 : Int32)), .unset, .unset, .unset, .unset, .unset, .unset, .unset, .unset, .unset, .unset] [(.int p1)]) _
    refine X0.ldcInt hx hown (mvT hZ (own_w hw 0 rfl)) (g := (mkF m 9 #[.val (.int p1), .val (.int p2), .val (.int p3), .val (.int p4), .val (.int (0 : Int32)), .unset, .unset, .unset, .unset, .unset, .unset, .unset, .unset, .unset, .unset] [(.int p1)])) rfl (hb hby at_9) _ ?_
    show own_S p e below s₁ (mkF m 11 #[.val (.int p1), .val (.int p2), .val (.int p3), .val (.int p4), .val (.int (0 : Int32)), .unset, .unset, .unset, .unset, .unset, .unset, .unset, .unset, .unset, .unset] [(.int (2147483647 : Int32)), (.int p1)]) _
    refine XS.iand X0.here hx rfl (hb hby at_11) rfl ?_
    show own_S p e below s₁ (mkF m 12 #[.val (.int p1), .val (.int p2), .val (.int p3), .val (.int p4), .val (.int (0 : Int32)), .unset, .unset, .unset, .unset, .unset, .unset, .unset, .unset, .unset, .unset] [(.int (p1 &&& (2147483647 : Int32)))]) _
    refine XS.istore X0.here hx rfl (hb hby at_12) rfl (l' := #[.val (.int p1), .val (.int p2), .val (.int p3), .val (.int p4), .val (.int (0 : Int32)), .val (.int (p1 &&& (2147483647 : Int32))), .unset, .unset, .unset, .unset, .unset, .unset, .unset, .unset, .unset]) rfl ?_
    show own_S p e below s₁ (mkF m 14 #[.val (.int p1), .val (.int p2), .val (.int p3), .val (.int p4), .val (.int (0 : Int32)), .val (.int (p1 &&& (2147483647 : Int32))), .unset, .unset, .unset, .unset, .unset, .unset, .unset, .unset, .unset] []) _
    refine XS.iloadN X0.here hx rfl (hb hby at_14) rfl ?_
    show own_S p e below s₁ (mkF m 15 #[.val (.int p1), .val (.int p2), .val (.int p3), .val (.int p4), .val (.int (0 : Int32)), .val (.int (p1 &&& (2147483647 : Int32))), .unset, .unset, .unset, .unset, .unset, .unset, .unset, .unset, .unset] [(.int p2)]) _
    refine X0.ldcInt hx hown (mvT hZ (own_w hw 0 rfl)) (g := (mkF m 15 #[.val (.int p1), .val (.int p2), .val (.int p3), .val (.int p4), .val (.int (0 : Int32)), .val (.int (p1 &&& (2147483647 : Int32))), .unset, .unset, .unset, .unset, .unset, .unset, .unset, .unset, .unset] [(.int p2)])) rfl (hb hby at_15) _ ?_
    show own_S p e below s₁ (mkF m 17 #[.val (.int p1), .val (.int p2), .val (.int p3), .val (.int p4), .val (.int (0 : Int32)), .val (.int (p1 &&& (2147483647 : Int32))), .unset, .unset, .unset, .unset, .unset, .unset, .unset, .unset, .unset] [(.int (2147483647 : Int32)), (.int p2)]) _
    refine XS.iand X0.here hx rfl (hb hby at_17) rfl ?_
    show own_S p e below s₁ (mkF m 18 #[.val (.int p1), .val (.int p2), .val (.int p3), .val (.int p4), .val (.int (0 : Int32)), .val (.int (p1 &&& (2147483647 : Int32))), .unset, .unset, .unset, .unset, .unset, .unset, .unset, .unset, .unset] [(.int (p2 &&& (2147483647 : Int32)))]) _
    refine XS.istore X0.here hx rfl (hb hby at_18) rfl (l' := #[.val (.int p1), .val (.int p2), .val (.int p3), .val (.int p4), .val (.int (0 : Int32)), .val (.int (p1 &&& (2147483647 : Int32))), .val (.int (p2 &&& (2147483647 : Int32))), .unset, .unset, .unset, .unset, .unset, .unset, .unset, .unset]) rfl ?_
    show own_S p e below s₁ (mkF m 20 #[.val (.int p1), .val (.int p2), .val (.int p3), .val (.int p4), .val (.int (0 : Int32)), .val (.int (p1 &&& (2147483647 : Int32))), .val (.int (p2 &&& (2147483647 : Int32))), .unset, .unset, .unset, .unset, .unset, .unset, .unset, .unset] []) _
    refine XS.iloadN X0.here hx rfl (hb hby at_20) rfl ?_
    show own_S p e below s₁ (mkF m 21 #[.val (.int p1), .val (.int p2), .val (.int p3), .val (.int p4), .val (.int (0 : Int32)), .val (.int (p1 &&& (2147483647 : Int32))), .val (.int (p2 &&& (2147483647 : Int32))), .unset, .unset, .unset, .unset, .unset, .unset, .unset, .unset] [(.int p3)]) _
    refine X0.ldcInt hx hown (mvT hZ (own_w hw 0 rfl)) (g := (mkF m 21 #[.val (.int p1), .val (.int p2), .val (.int p3), .val (.int p4), .val (.int (0 : Int32)), .val (.int (p1 &&& (2147483647 : Int32))), .val (.int (p2 &&& (2147483647 : Int32))), .unset, .unset, .unset, .unset, .unset, .unset, .unset, .unset] [(.int p3)])) rfl (hb hby at_21) _ ?_
    show own_S p e below s₁ (mkF m 23 #[.val (.int p1), .val (.int p2), .val (.int p3), .val (.int p4), .val (.int (0 : Int32)), .val (.int (p1 &&& (2147483647 : Int32))), .val (.int (p2 &&& (2147483647 : Int32))), .unset, .unset, .unset, .unset, .unset, .unset, .unset, .unset] [(.int (2147483647 : Int32)), (.int p3)]) _
    refine XS.iand X0.here hx rfl (hb hby at_23) rfl ?_
    show own_S p e below s₁ (mkF m 24 #[.val (.int p1), .val (.int p2), .val (.int p3), .val (.int p4), .val (.int (0 : Int32)), .val (.int (p1 &&& (2147483647 : Int32))), .val (.int (p2 &&& (2147483647 : Int32))), .unset, .unset, .unset, .unset, .unset, .unset, .unset, .unset] [(.int (p3 &&& (2147483647 : Int32)))]) _
    refine XS.istore X0.here hx rfl (hb hby at_24) rfl (l' := #[.val (.int p1), .val (.int p2), .val (.int p3), .val (.int p4), .val (.int (0 : Int32)), .val (.int (p1 &&& (2147483647 : Int32))), .val (.int (p2 &&& (2147483647 : Int32))), .val (.int (p3 &&& (2147483647 : Int32))), .unset, .unset, .unset, .unset, .unset, .unset, .unset]) rfl ?_
    show own_S p e below s₁ (mkF m 26 #[.val (.int p1), .val (.int p2), .val (.int p3), .val (.int p4), .val (.int (0 : Int32)), .val (.int (p1 &&& (2147483647 : Int32))), .val (.int (p2 &&& (2147483647 : Int32))), .val (.int (p3 &&& (2147483647 : Int32))), .unset, .unset, .unset, .unset, .unset, .unset, .unset] []) _
    refine XS.iload X0.here hx rfl (hb hby at_26) rfl ?_
    show own_S p e below s₁ (mkF m 28 #[.val (.int p1), .val (.int p2), .val (.int p3), .val (.int p4), .val (.int (0 : Int32)), .val (.int (p1 &&& (2147483647 : Int32))), .val (.int (p2 &&& (2147483647 : Int32))), .val (.int (p3 &&& (2147483647 : Int32))), .unset, .unset, .unset, .unset, .unset, .unset, .unset] [(.int (0 : Int32))]) _
    refine XS.ifNo X0.here hx rfl (hb hby at_28) rfl ((if0 _ _).trans (teq (rfl : (0 : Int32) = (0 : Int32))).2) ?_
    show own_S p e below s₁ (mkF m 31 #[.val (.int p1), .val (.int p2), .val (.int p3), .val (.int p4), .val (.int (0 : Int32)), .val (.int (p1 &&& (2147483647 : Int32))), .val (.int (p2 &&& (2147483647 : Int32))), .val (.int (p3 &&& (2147483647 : Int32))), .unset, .unset, .unset, .unset, .unset, .unset, .unset] []) _
    refine XS.iload X0.here hx rfl (hb hby at_31) rfl ?_
    show own_S p e below s₁ (mkF m 33 #[.val (.int p1), .val (.int p2), .val (.int p3), .val (.int p4), .val (.int (0 : Int32)), .val (.int (p1 &&& (2147483647 : Int32))), .val (.int (p2 &&& (2147483647 : Int32))), .val (.int (p3 &&& (2147483647 : Int32))), .unset, .unset, .unset, .unset, .unset, .unset, .unset] [(.int (p1 &&& (2147483647 : Int32)))]) _
    refine X0.ldcInt hx hown (mvT hZ (own_w hw 0 rfl)) (g := (mkF m 33 #[.val (.int p1), .val (.int p2), .val (.int p3), .val (.int p4), .val (.int (0 : Int32)), .val (.int (p1 &&& (2147483647 : Int32))), .val (.int (p2 &&& (2147483647 : Int32))), .val (.int (p3 &&& (2147483647 : Int32))), .unset, .unset, .unset, .unset, .unset, .unset, .unset] [(.int (p1 &&& (2147483647 : Int32)))])) rfl (hb hby at_33) _ ?_
    show own_S p e below s₁ (mkF m 35 #[.val (.int p1), .val (.int p2), .val (.int p3), .val (.int p4), .val (.int (0 : Int32)), .val (.int (p1 &&& (2147483647 : Int32))), .val (.int (p2 &&& (2147483647 : Int32))), .val (.int (p3 &&& (2147483647 : Int32))), .unset, .unset, .unset, .unset, .unset, .unset, .unset] [(.int (2147483647 : Int32)), (.int (p1 &&& (2147483647 : Int32)))]) _
    refine iremM X0 hx rfl (hb hby at_35) rfl (by decide) ?_
    show own_S p e below s₁ (mkF m 36 #[.val (.int p1), .val (.int p2), .val (.int p3), .val (.int p4), .val (.int (0 : Int32)), .val (.int (p1 &&& (2147483647 : Int32))), .val (.int (p2 &&& (2147483647 : Int32))), .val (.int (p3 &&& (2147483647 : Int32))), .unset, .unset, .unset, .unset, .unset, .unset, .unset] [(.int ((p1 &&& (2147483647 : Int32)) % (2147483647 : Int32)))]) _
    refine XS.istore X0.here hx rfl (hb hby at_36) rfl (l' := #[.val (.int p1), .val (.int p2), .val (.int p3), .val (.int p4), .val (.int (0 : Int32)), .val (.int ((p1 &&& (2147483647 : Int32)) % (2147483647 : Int32))), .val (.int (p2 &&& (2147483647 : Int32))), .val (.int (p3 &&& (2147483647 : Int32))), .unset, .unset, .unset, .unset, .unset, .unset, .unset]) rfl ?_
    show own_S p e below s₁ (mkF m 38 #[.val (.int p1), .val (.int p2), .val (.int p3), .val (.int p4), .val (.int (0 : Int32)), .val (.int ((p1 &&& (2147483647 : Int32)) % (2147483647 : Int32))), .val (.int (p2 &&& (2147483647 : Int32))), .val (.int (p3 &&& (2147483647 : Int32))), .unset, .unset, .unset, .unset, .unset, .unset, .unset] []) _
    refine XS.iload X0.here hx rfl (hb hby at_38) rfl ?_
    show own_S p e below s₁ (mkF m 40 #[.val (.int p1), .val (.int p2), .val (.int p3), .val (.int p4), .val (.int (0 : Int32)), .val (.int ((p1 &&& (2147483647 : Int32)) % (2147483647 : Int32))), .val (.int (p2 &&& (2147483647 : Int32))), .val (.int (p3 &&& (2147483647 : Int32))), .unset, .unset, .unset, .unset, .unset, .unset, .unset] [(.int (0 : Int32))]) _
    refine XS.iconst X0.here hx rfl (hb hby at_40) ?_
    show own_S p e below s₁ (mkF m 41 #[.val (.int p1), .val (.int p2), .val (.int p3), .val (.int p4), .val (.int (0 : Int32)), .val (.int ((p1 &&& (2147483647 : Int32)) % (2147483647 : Int32))), .val (.int (p2 &&& (2147483647 : Int32))), .val (.int (p3 &&& (2147483647 : Int32))), .unset, .unset, .unset, .unset, .unset, .unset, .unset] [(.int (1 : Int32)), (.int (0 : Int32))]) _
    refine XS.icmpYes X0.here hx rfl (pc0 := 41) (pc' := 51) rfl (hb hby at_41) rfl (feq (by decide : ¬ ((0 : Int32) = (1 : Int32)))).2 (by decide) (by decide) ?_
    show own_S p e below s₁ (mkF m 51 #[.val (.int p1), .val (.int p2), .val (.int p3), .val (.int p4), .val (.int (0 : Int32)), .val (.int ((p1 &&& (2147483647 : Int32)) % (2147483647 : Int32))), .val (.int (p2 &&& (2147483647 : Int32))), .val (.int (p3 &&& (2147483647 : Int32))), .unset, .unset, .unset, .unset, .unset, .unset, .unset] []) _
    refine XS.iload X0.here hx rfl (hb hby at_51) rfl ?_
    show own_S p e below s₁ (mkF m 53 #[.val (.int p1), .val (.int p2), .val (.int p3), .val (.int p4), .val (.int (0 : Int32)), .val (.int ((p1 &&& (2147483647 : Int32)) % (2147483647 : Int32))), .val (.int (p2 &&& (2147483647 : Int32))), .val (.int (p3 &&& (2147483647 : Int32))), .unset, .unset, .unset, .unset, .unset, .unset, .unset] [(.int (0 : Int32))]) _
    refine XS.iconst X0.here hx rfl (hb hby at_53) ?_
    show own_S p e below s₁ (mkF m 54 #[.val (.int p1), .val (.int p2), .val (.int p3), .val (.int p4), .val (.int (0 : Int32)), .val (.int ((p1 &&& (2147483647 : Int32)) % (2147483647 : Int32))), .val (.int (p2 &&& (2147483647 : Int32))), .val (.int (p3 &&& (2147483647 : Int32))), .unset, .unset, .unset, .unset, .unset, .unset, .unset] [(.int (2 : Int32)), (.int (0 : Int32))]) _
    refine XS.icmpYes X0.here hx rfl (pc0 := 54) (pc' := 64) rfl (hb hby at_54) rfl (feq (by decide : ¬ ((0 : Int32) = (2 : Int32)))).2 (by decide) (by decide) ?_
    show own_S p e below s₁ (mkF m 64 #[.val (.int p1), .val (.int p2), .val (.int p3), .val (.int p4), .val (.int (0 : Int32)), .val (.int ((p1 &&& (2147483647 : Int32)) % (2147483647 : Int32))), .val (.int (p2 &&& (2147483647 : Int32))), .val (.int (p3 &&& (2147483647 : Int32))), .unset, .unset, .unset, .unset, .unset, .unset, .unset] []) _
    refine st1 _ ?_
    show own_S p e below T1 (mkF m 67 #[.val (.int p1), .val (.int p2), .val (.int p3), .val (.int p4), .val (.int (0 : Int32)), .val (.int ((p1 &&& (2147483647 : Int32)) % (2147483647 : Int32))), .val (.int (p2 &&& (2147483647 : Int32))), .val (.int (p3 &&& (2147483647 : Int32))), .unset, .unset, .unset, .unset, .unset, .unset, .unset] [(.ref b1)]) _
    refine XS.dup X1.here hx rfl (hb hby at_67) rfl rfl ?_
    show own_S p e below T1 (mkF m 68 #[.val (.int p1), .val (.int p2), .val (.int p3), .val (.int p4), .val (.int (0 : Int32)), .val (.int ((p1 &&& (2147483647 : Int32)) % (2147483647 : Int32))), .val (.int (p2 &&& (2147483647 : Int32))), .val (.int (p3 &&& (2147483647 : Int32))), .unset, .unset, .unset, .unset, .unset, .unset, .unset] [(.ref b1), (.ref b1)]) _
    refine XS.iload X1.here hx rfl (hb hby at_68) rfl ?_
    show own_S p e below T1 (mkF m 70 #[.val (.int p1), .val (.int p2), .val (.int p3), .val (.int p4), .val (.int (0 : Int32)), .val (.int ((p1 &&& (2147483647 : Int32)) % (2147483647 : Int32))), .val (.int (p2 &&& (2147483647 : Int32))), .val (.int (p3 &&& (2147483647 : Int32))), .unset, .unset, .unset, .unset, .unset, .unset, .unset] [(.int ((p1 &&& (2147483647 : Int32)) % (2147483647 : Int32))), (.ref b1), (.ref b1)]) _
    refine XS.iload X1.here hx rfl (hb hby at_70) rfl ?_
    show own_S p e below T1 (mkF m 72 #[.val (.int p1), .val (.int p2), .val (.int p3), .val (.int p4), .val (.int (0 : Int32)), .val (.int ((p1 &&& (2147483647 : Int32)) % (2147483647 : Int32))), .val (.int (p2 &&& (2147483647 : Int32))), .val (.int (p3 &&& (2147483647 : Int32))), .unset, .unset, .unset, .unset, .unset, .unset, .unset] [(.int (p2 &&& (2147483647 : Int32))), (.int ((p1 &&& (2147483647 : Int32)) % (2147483647 : Int32))), (.ref b1), (.ref b1)]) _
    refine XS.iload X1.here hx rfl (hb hby at_72) rfl ?_
    show own_S p e below T1 (mkF m 74 #[.val (.int p1), .val (.int p2), .val (.int p3), .val (.int p4), .val (.int (0 : Int32)), .val (.int ((p1 &&& (2147483647 : Int32)) % (2147483647 : Int32))), .val (.int (p2 &&& (2147483647 : Int32))), .val (.int (p3 &&& (2147483647 : Int32))), .unset, .unset, .unset, .unset, .unset, .unset, .unset] [(.int (p3 &&& (2147483647 : Int32))), (.int (p2 &&& (2147483647 : Int32))), (.int ((p1 &&& (2147483647 : Int32)) % (2147483647 : Int32))), (.ref b1), (.ref b1)]) _
    refine st14 _ ?_
    show own_S p e below T14 (mkF m 77 #[.val (.int p1), .val (.int p2), .val (.int p3), .val (.int p4), .val (.int (0 : Int32)), .val (.int ((p1 &&& (2147483647 : Int32)) % (2147483647 : Int32))), .val (.int (p2 &&& (2147483647 : Int32))), .val (.int (p3 &&& (2147483647 : Int32))), .unset, .unset, .unset, .unset, .unset, .unset, .unset] [(.ref b1)]) _
    refine XS.astore X14.here hx rfl (hb hby at_77) rfl rfl (l' := #[.val (.int p1), .val (.int p2), .val (.int p3), .val (.int p4), .val (.int (0 : Int32)), .val (.int ((p1 &&& (2147483647 : Int32)) % (2147483647 : Int32))), .val (.int (p2 &&& (2147483647 : Int32))), .val (.int (p3 &&& (2147483647 : Int32))), .val (.ref b1), .unset, .unset, .unset, .unset, .unset, .unset]) rfl ?_
    show own_S p e below T14 (mkF m 79 #[.val (.int p1), .val (.int p2), .val (.int p3), .val (.int p4), .val (.int (0 : Int32)), .val (.int ((p1 &&& (2147483647 : Int32)) % (2147483647 : Int32))), .val (.int (p2 &&& (2147483647 : Int32))), .val (.int (p3 &&& (2147483647 : Int32))), .val (.ref b1), .unset, .unset, .unset, .unset, .unset, .unset] []) _
    refine XS.aload X14.here hx rfl (hb hby at_79) rfl rfl ?_
    show own_S p e below T14 (mkF m 81 #[.val (.int p1), .val (.int p2), .val (.int p3), .val (.int p4), .val (.int (0 : Int32)), .val (.int ((p1 &&& (2147483647 : Int32)) % (2147483647 : Int32))), .val (.int (p2 &&& (2147483647 : Int32))), .val (.int (p3 &&& (2147483647 : Int32))), .val (.ref b1), .unset, .unset, .unset, .unset, .unset, .unset] [(.ref b1)]) _
    refine XS.iload X14.here hx rfl (hb hby at_81) rfl ?_
    show own_S p e below T14 (mkF m 83 #[.val (.int p1), .val (.int p2), .val (.int p3), .val (.int p4), .val (.int (0 : Int32)), .val (.int ((p1 &&& (2147483647 : Int32)) % (2147483647 : Int32))), .val (.int (p2 &&& (2147483647 : Int32))), .val (.int (p3 &&& (2147483647 : Int32))), .val (.ref b1), .unset, .unset, .unset, .unset, .unset, .unset] [(.int (0 : Int32)), (.ref b1)]) _
    refine st17 _ ?_
    show own_S p e below T17 (mkF m 86 #[.val (.int p1), .val (.int p2), .val (.int p3), .val (.int p4), .val (.int (0 : Int32)), .val (.int ((p1 &&& (2147483647 : Int32)) % (2147483647 : Int32))), .val (.int (p2 &&& (2147483647 : Int32))), .val (.int (p3 &&& (2147483647 : Int32))), .val (.ref b1), .unset, .unset, .unset, .unset, .unset, .unset] [(.ref w_CREATED), (.ref b1)]) _
    refine st31 _ ?_
    show own_S p e below T31 (mkF m 89 #[.val (.int p1), .val (.int p2), .val (.int p3), .val (.int p4), .val (.int (0 : Int32)), .val (.int ((p1 &&& (2147483647 : Int32)) % (2147483647 : Int32))), .val (.int (p2 &&& (2147483647 : Int32))), .val (.int (p3 &&& (2147483647 : Int32))), .val (.ref b1), .unset, .unset, .unset, .unset, .unset, .unset] [(.ref b32)]) _
    refine XS.astore X31.here hx rfl (hb hby at_89) rfl rfl (l' := #[.val (.int p1), .val (.int p2), .val (.int p3), .val (.int p4), .val (.int (0 : Int32)), .val (.int ((p1 &&& (2147483647 : Int32)) % (2147483647 : Int32))), .val (.int (p2 &&& (2147483647 : Int32))), .val (.int (p3 &&& (2147483647 : Int32))), .val (.ref b1), .val (.ref b32), .unset, .unset, .unset, .unset, .unset]) rfl ?_
    show own_S p e below T31 (mkF m 91 #[.val (.int p1), .val (.int p2), .val (.int p3), .val (.int p4), .val (.int (0 : Int32)), .val (.int ((p1 &&& (2147483647 : Int32)) % (2147483647 : Int32))), .val (.int (p2 &&& (2147483647 : Int32))), .val (.int (p3 &&& (2147483647 : Int32))), .val (.ref b1), .val (.ref b32), .unset, .unset, .unset, .unset, .unset] []) _
    refine XS.iload X31.here hx rfl (hb hby at_91) rfl ?_
    show own_S p e below T31 (mkF m 93 #[.val (.int p1), .val (.int p2), .val (.int p3), .val (.int p4), .val (.int (0 : Int32)), .val (.int ((p1 &&& (2147483647 : Int32)) % (2147483647 : Int32))), .val (.int (p2 &&& (2147483647 : Int32))), .val (.int (p3 &&& (2147483647 : Int32))), .val (.ref b1), .val (.ref b32), .unset, .unset, .unset, .unset, .unset] [(.int ((p1 &&& (2147483647 : Int32)) % (2147483647 : Int32)))]) _
    refine XS.istore X31.here hx rfl (hb hby at_93) rfl (l' := #[.val (.int p1), .val (.int p2), .val (.int p3), .val (.int p4), .val (.int (0 : Int32)), .val (.int ((p1 &&& (2147483647 : Int32)) % (2147483647 : Int32))), .val (.int (p2 &&& (2147483647 : Int32))), .val (.int (p3 &&& (2147483647 : Int32))), .val (.ref b1), .val (.ref b32), .val (.int ((p1 &&& (2147483647 : Int32)) % (2147483647 : Int32))), .unset, .unset, .unset, .unset]) rfl ?_
    show own_S p e below T31 (mkF m 95 #[.val (.int p1), .val (.int p2), .val (.int p3), .val (.int p4), .val (.int (0 : Int32)), .val (.int ((p1 &&& (2147483647 : Int32)) % (2147483647 : Int32))), .val (.int (p2 &&& (2147483647 : Int32))), .val (.int (p3 &&& (2147483647 : Int32))), .val (.ref b1), .val (.ref b32), .val (.int ((p1 &&& (2147483647 : Int32)) % (2147483647 : Int32))), .unset, .unset, .unset, .unset] []) _
    refine XS.iload X31.here hx rfl (hb hby at_95) rfl ?_
    show own_S p e below T31 (mkF m 97 #[.val (.int p1), .val (.int p2), .val (.int p3), .val (.int p4), .val (.int (0 : Int32)), .val (.int ((p1 &&& (2147483647 : Int32)) % (2147483647 : Int32))), .val (.int (p2 &&& (2147483647 : Int32))), .val (.int (p3 &&& (2147483647 : Int32))), .val (.ref b1), .val (.ref b32), .val (.int ((p1 &&& (2147483647 : Int32)) % (2147483647 : Int32))), .unset, .unset, .unset, .unset] [(.int (p2 &&& (2147483647 : Int32)))]) _
    refine XS.istore X31.here hx rfl (hb hby at_97) rfl (l' := #[.val (.int p1), .val (.int p2), .val (.int p3), .val (.int p4), .val (.int (0 : Int32)), .val (.int ((p1 &&& (2147483647 : Int32)) % (2147483647 : Int32))), .val (.int (p2 &&& (2147483647 : Int32))), .val (.int (p3 &&& (2147483647 : Int32))), .val (.ref b1), .val (.ref b32), .val (.int ((p1 &&& (2147483647 : Int32)) % (2147483647 : Int32))), .val (.int (p2 &&& (2147483647 : Int32))), .unset, .unset, .unset]) rfl ?_
    show own_S p e below T31 (mkF m 99 #[.val (.int p1), .val (.int p2), .val (.int p3), .val (.int p4), .val (.int (0 : Int32)), .val (.int ((p1 &&& (2147483647 : Int32)) % (2147483647 : Int32))), .val (.int (p2 &&& (2147483647 : Int32))), .val (.int (p3 &&& (2147483647 : Int32))), .val (.ref b1), .val (.ref b32), .val (.int ((p1 &&& (2147483647 : Int32)) % (2147483647 : Int32))), .val (.int (p2 &&& (2147483647 : Int32))), .unset, .unset, .unset] []) _
    refine XS.iload X31.here hx rfl (hb hby at_99) rfl ?_
    show own_S p e below T31 (mkF m 101 #[.val (.int p1), .val (.int p2), .val (.int p3), .val (.int p4), .val (.int (0 : Int32)), .val (.int ((p1 &&& (2147483647 : Int32)) % (2147483647 : Int32))), .val (.int (p2 &&& (2147483647 : Int32))), .val (.int (p3 &&& (2147483647 : Int32))), .val (.ref b1), .val (.ref b32), .val (.int ((p1 &&& (2147483647 : Int32)) % (2147483647 : Int32))), .val (.int (p2 &&& (2147483647 : Int32))), .unset, .unset, .unset] [(.int (p3 &&& (2147483647 : Int32)))]) _
    refine XS.istore X31.here hx rfl (hb hby at_101) rfl (l' := #[.val (.int p1), .val (.int p2), .val (.int p3), .val (.int p4), .val (.int (0 : Int32)), .val (.int ((p1 &&& (2147483647 : Int32)) % (2147483647 : Int32))), .val (.int (p2 &&& (2147483647 : Int32))), .val (.int (p3 &&& (2147483647 : Int32))), .val (.ref b1), .val (.ref b32), .val (.int ((p1 &&& (2147483647 : Int32)) % (2147483647 : Int32))), .val (.int (p2 &&& (2147483647 : Int32))), .val (.int (p3 &&& (2147483647 : Int32))), .unset, .unset]) rfl ?_
    show own_S p e below T31 (mkF m 103 #[.val (.int p1), .val (.int p2), .val (.int p3), .val (.int p4), .val (.int (0 : Int32)), .val (.int ((p1 &&& (2147483647 : Int32)) % (2147483647 : Int32))), .val (.int (p2 &&& (2147483647 : Int32))), .val (.int (p3 &&& (2147483647 : Int32))), .val (.ref b1), .val (.ref b32), .val (.int ((p1 &&& (2147483647 : Int32)) % (2147483647 : Int32))), .val (.int (p2 &&& (2147483647 : Int32))), .val (.int (p3 &&& (2147483647 : Int32))), .unset, .unset] []) _
    refine XS.iload X31.here hx rfl (hb hby at_103) rfl ?_
    show own_S p e below T31 (mkF m 105 #[.val (.int p1), .val (.int p2), .val (.int p3), .val (.int p4), .val (.int (0 : Int32)), .val (.int ((p1 &&& (2147483647 : Int32)) % (2147483647 : Int32))), .val (.int (p2 &&& (2147483647 : Int32))), .val (.int (p3 &&& (2147483647 : Int32))), .val (.ref b1), .val (.ref b32), .val (.int ((p1 &&& (2147483647 : Int32)) % (2147483647 : Int32))), .val (.int (p2 &&& (2147483647 : Int32))), .val (.int (p3 &&& (2147483647 : Int32))), .unset, .unset] [(.int (0 : Int32))]) _
    refine XS.ifNo X31.here hx rfl (hb hby at_105) rfl ((if0 _ _).trans (teq (rfl : (0 : Int32) = (0 : Int32))).2) ?_
    show own_S p e below T31 (mkF m 108 #[.val (.int p1), .val (.int p2), .val (.int p3), .val (.int p4), .val (.int (0 : Int32)), .val (.int ((p1 &&& (2147483647 : Int32)) % (2147483647 : Int32))), .val (.int (p2 &&& (2147483647 : Int32))), .val (.int (p3 &&& (2147483647 : Int32))), .val (.ref b1), .val (.ref b32), .val (.int ((p1 &&& (2147483647 : Int32)) % (2147483647 : Int32))), .val (.int (p2 &&& (2147483647 : Int32))), .val (.int (p3 &&& (2147483647 : Int32))), .unset, .unset] []) _
    refine XS.iload X31.here hx rfl (hb hby at_108) rfl ?_
    show own_S p e below T31 (mkF m 110 #[.val (.int p1), .val (.int p2), .val (.int p3), .val (.int p4), .val (.int (0 : Int32)), .val (.int ((p1 &&& (2147483647 : Int32)) % (2147483647 : Int32))), .val (.int (p2 &&& (2147483647 : Int32))), .val (.int (p3 &&& (2147483647 : Int32))), .val (.ref b1), .val (.ref b32), .val (.int ((p1 &&& (2147483647 : Int32)) % (2147483647 : Int32))), .val (.int (p2 &&& (2147483647 : Int32))), .val (.int (p3 &&& (2147483647 : Int32))), .unset, .unset] [(.int ((p1 &&& (2147483647 : Int32)) % (2147483647 : Int32)))]) _
    refine XS.iconst X31.here hx rfl (hb hby at_110) ?_
    show own_S p e below T31 (mkF m 111 #[.val (.int p1), .val (.int p2), .val (.int p3), .val (.int p4), .val (.int (0 : Int32)), .val (.int ((p1 &&& (2147483647 : Int32)) % (2147483647 : Int32))), .val (.int (p2 &&& (2147483647 : Int32))), .val (.int (p3 &&& (2147483647 : Int32))), .val (.ref b1), .val (.ref b32), .val (.int ((p1 &&& (2147483647 : Int32)) % (2147483647 : Int32))), .val (.int (p2 &&& (2147483647 : Int32))), .val (.int (p3 &&& (2147483647 : Int32))), .unset, .unset] [(.int (1 : Int32)), (.int ((p1 &&& (2147483647 : Int32)) % (2147483647 : Int32)))]) _
    refine XS.iadd X31.here hx rfl (hb hby at_111) rfl ?_
    show own_S p e below T31 (mkF m 112 #[.val (.int p1), .val (.int p2), .val (.int p3), .val (.int p4), .val (.int (0 : Int32)), .val (.int ((p1 &&& (2147483647 : Int32)) % (2147483647 : Int32))), .val (.int (p2 &&& (2147483647 : Int32))), .val (.int (p3 &&& (2147483647 : Int32))), .val (.ref b1), .val (.ref b32), .val (.int ((p1 &&& (2147483647 : Int32)) % (2147483647 : Int32))), .val (.int (p2 &&& (2147483647 : Int32))), .val (.int (p3 &&& (2147483647 : Int32))), .unset, .unset] [(.int (((p1 &&& (2147483647 : Int32)) % (2147483647 : Int32)) + (1 : Int32)))]) _
    refine XS.istore X31.here hx rfl (hb hby at_112) rfl (l' := #[.val (.int p1), .val (.int p2), .val (.int p3), .val (.int p4), .val (.int (0 : Int32)), .val (.int ((p1 &&& (2147483647 : Int32)) % (2147483647 : Int32))), .val (.int (p2 &&& (2147483647 : Int32))), .val (.int (p3 &&& (2147483647 : Int32))), .val (.ref b1), .val (.ref b32), .val (.int (((p1 &&& (2147483647 : Int32)) % (2147483647 : Int32)) + (1 : Int32))), .val (.int (p2 &&& (2147483647 : Int32))), .val (.int (p3 &&& (2147483647 : Int32))), .unset, .unset]) rfl ?_
    show own_S p e below T31 (mkF m 114 #[.val (.int p1), .val (.int p2), .val (.int p3), .val (.int p4), .val (.int (0 : Int32)), .val (.int ((p1 &&& (2147483647 : Int32)) % (2147483647 : Int32))), .val (.int (p2 &&& (2147483647 : Int32))), .val (.int (p3 &&& (2147483647 : Int32))), .val (.ref b1), .val (.ref b32), .val (.int (((p1 &&& (2147483647 : Int32)) % (2147483647 : Int32)) + (1 : Int32))), .val (.int (p2 &&& (2147483647 : Int32))), .val (.int (p3 &&& (2147483647 : Int32))), .unset, .unset] []) _
    refine XS.iload X31.here hx rfl (hb hby at_114) rfl ?_
    show own_S p e below T31 (mkF m 116 #[.val (.int p1), .val (.int p2), .val (.int p3), .val (.int p4), .val (.int (0 : Int32)), .val (.int ((p1 &&& (2147483647 : Int32)) % (2147483647 : Int32))), .val (.int (p2 &&& (2147483647 : Int32))), .val (.int (p3 &&& (2147483647 : Int32))), .val (.ref b1), .val (.ref b32), .val (.int (((p1 &&& (2147483647 : Int32)) % (2147483647 : Int32)) + (1 : Int32))), .val (.int (p2 &&& (2147483647 : Int32))), .val (.int (p3 &&& (2147483647 : Int32))), .unset, .unset] [(.int (0 : Int32))]) _
    refine XS.iconst X31.here hx rfl (hb hby at_116) ?_
    show own_S p e below T31 (mkF m 117 #[.val (.int p1), .val (.int p2), .val (.int p3), .val (.int p4), .val (.int (0 : Int32)), .val (.int ((p1 &&& (2147483647 : Int32)) % (2147483647 : Int32))), .val (.int (p2 &&& (2147483647 : Int32))), .val (.int (p3 &&& (2147483647 : Int32))), .val (.ref b1), .val (.ref b32), .val (.int (((p1 &&& (2147483647 : Int32)) % (2147483647 : Int32)) + (1 : Int32))), .val (.int (p2 &&& (2147483647 : Int32))), .val (.int (p3 &&& (2147483647 : Int32))), .unset, .unset] [(.int (1 : Int32)), (.int (0 : Int32))]) _
    refine XS.icmpYes X31.here hx rfl (pc0 := 117) (pc' := 126) rfl (hb hby at_117) rfl (feq (by decide : ¬ ((0 : Int32) = (1 : Int32)))).2 (by decide) (by decide) ?_
    show own_S p e below T31 (mkF m 126 #[.val (.int p1), .val (.int p2), .val (.int p3), .val (.int p4), .val (.int (0 : Int32)), .val (.int ((p1 &&& (2147483647 : Int32)) % (2147483647 : Int32))), .val (.int (p2 &&& (2147483647 : Int32))), .val (.int (p3 &&& (2147483647 : Int32))), .val (.ref b1), .val (.ref b32), .val (.int (((p1 &&& (2147483647 : Int32)) % (2147483647 : Int32)) + (1 : Int32))), .val (.int (p2 &&& (2147483647 : Int32))), .val (.int (p3 &&& (2147483647 : Int32))), .unset, .unset] []) _
    refine XS.iload X31.here hx rfl (hb hby at_126) rfl ?_
    show own_S p e below T31 (mkF m 128 #[.val (.int p1), .val (.int p2), .val (.int p3), .val (.int p4), .val (.int (0 : Int32)), .val (.int ((p1 &&& (2147483647 : Int32)) % (2147483647 : Int32))), .val (.int (p2 &&& (2147483647 : Int32))), .val (.int (p3 &&& (2147483647 : Int32))), .val (.ref b1), .val (.ref b32), .val (.int (((p1 &&& (2147483647 : Int32)) % (2147483647 : Int32)) + (1 : Int32))), .val (.int (p2 &&& (2147483647 : Int32))), .val (.int (p3 &&& (2147483647 : Int32))), .unset, .unset] [(.int (0 : Int32))]) _
    refine XS.iconst X31.here hx rfl (hb hby at_128) ?_
    show own_S p e below T31 (mkF m 129 #[.val (.int p1), .val (.int p2), .val (.int p3), .val (.int p4), .val (.int (0 : Int32)), .val (.int ((p1 &&& (2147483647 : Int32)) % (2147483647 : Int32))), .val (.int (p2 &&& (2147483647 : Int32))), .val (.int (p3 &&& (2147483647 : Int32))), .val (.ref b1), .val (.ref b32), .val (.int (((p1 &&& (2147483647 : Int32)) % (2147483647 : Int32)) + (1 : Int32))), .val (.int (p2 &&& (2147483647 : Int32))), .val (.int (p3 &&& (2147483647 : Int32))), .unset, .unset] [(.int (2 : Int32)), (.int (0 : Int32))]) _
    refine XS.icmpYes X31.here hx rfl (pc0 := 129) (pc' := 138) rfl (hb hby at_129) rfl (feq (by decide : ¬ ((0 : Int32) = (2 : Int32)))).2 (by decide) (by decide) ?_
    show own_S p e below T31 (mkF m 138 #[.val (.int p1), .val (.int p2), .val (.int p3), .val (.int p4), .val (.int (0 : Int32)), .val (.int ((p1 &&& (2147483647 : Int32)) % (2147483647 : Int32))), .val (.int (p2 &&& (2147483647 : Int32))), .val (.int (p3 &&& (2147483647 : Int32))), .val (.ref b1), .val (.ref b32), .val (.int (((p1 &&& (2147483647 : Int32)) % (2147483647 : Int32)) + (1 : Int32))), .val (.int (p2 &&& (2147483647 : Int32))), .val (.int (p3 &&& (2147483647 : Int32))), .unset, .unset] []) _
    refine XS.aload X31.here hx rfl (hb hby at_138) rfl rfl ?_
    show own_S p e below T31 (mkF m 140 #[.val (.int p1), .val (.int p2), .val (.int p3), .val (.int p4), .val (.int (0 : Int32)), .val (.int ((p1 &&& (2147483647 : Int32)) % (2147483647 : Int32))), .val (.int (p2 &&& (2147483647 : Int32))), .val (.int (p3 &&& (2147483647 : Int32))), .val (.ref b1), .val (.ref b32), .val (.int (((p1 &&& (2147483647 : Int32)) % (2147483647 : Int32)) + (1 : Int32))), .val (.int (p2 &&& (2147483647 : Int32))), .val (.int (p3 &&& (2147483647 : Int32))), .unset, .unset] [(.ref b32)]) _
    refine st38 _ ?_
    show own_S p e below T38 (mkF m 143 #[.val (.int p1), .val (.int p2), .val (.int p3), .val (.int p4), .val (.int (0 : Int32)), .val (.int ((p1 &&& (2147483647 : Int32)) % (2147483647 : Int32))), .val (.int (p2 &&& (2147483647 : Int32))), .val (.int (p3 &&& (2147483647 : Int32))), .val (.ref b1), .val (.ref b32), .val (.int (((p1 &&& (2147483647 : Int32)) % (2147483647 : Int32)) + (1 : Int32))), .val (.int (p2 &&& (2147483647 : Int32))), .val (.int (p3 &&& (2147483647 : Int32))), .unset, .unset] [(.int (((p1 &&& (2147483647 : Int32)) % (2147483647 : Int32)) + (1 : Int32)))]) _
    refine XS.iload X38.here hx rfl (hb hby at_143) rfl ?_
    show own_S p e below T38 (mkF m 145 #[.val (.int p1), .val (.int p2), .val (.int p3), .val (.int p4), .val (.int (0 : Int32)), .val (.int ((p1 &&& (2147483647 : Int32)) % (2147483647 : Int32))), .val (.int (p2 &&& (2147483647 : Int32))), .val (.int (p3 &&& (2147483647 : Int32))), .val (.ref b1), .val (.ref b32), .val (.int (((p1 &&& (2147483647 : Int32)) % (2147483647 : Int32)) + (1 : Int32))), .val (.int (p2 &&& (2147483647 : Int32))), .val (.int (p3 &&& (2147483647 : Int32))), .unset, .unset] [(.int (((p1 &&& (2147483647 : Int32)) % (2147483647 : Int32)) + (1 : Int32))), (.int (((p1 &&& (2147483647 : Int32)) % (2147483647 : Int32)) + (1 : Int32)))]) _
    refine XS.icmpNo X38.here hx rfl (hb hby at_145) rfl (teq (rfl : (((p1 &&& (2147483647 : Int32)) % (2147483647 : Int32)) + (1 : Int32)) = (((p1 &&& (2147483647 : Int32)) % (2147483647 : Int32)) + (1 : Int32)))).2 ?_
    show own_S p e below T38 (mkF m 148 #[.val (.int p1), .val (.int p2), .val (.int p3), .val (.int p4), .val (.int (0 : Int32)), .val (.int ((p1 &&& (2147483647 : Int32)) % (2147483647 : Int32))), .val (.int (p2 &&& (2147483647 : Int32))), .val (.int (p3 &&& (2147483647 : Int32))), .val (.ref b1), .val (.ref b32), .val (.int (((p1 &&& (2147483647 : Int32)) % (2147483647 : Int32)) + (1 : Int32))), .val (.int (p2 &&& (2147483647 : Int32))), .val (.int (p3 &&& (2147483647 : Int32))), .unset, .unset] []) _
    refine XS.aload X38.here hx rfl (hb hby at_148) rfl rfl ?_
    show own_S p e below T38 (mkF m 150 #[.val (.int p1), .val (.int p2), .val (.int p3), .val (.int p4), .val (.int (0 : Int32)), .val (.int ((p1 &&& (2147483647 : Int32)) % (2147483647 : Int32))), .val (.int (p2 &&& (2147483647 : Int32))), .val (.int (p3 &&& (2147483647 : Int32))), .val (.ref b1), .val (.ref b32), .val (.int (((p1 &&& (2147483647 : Int32)) % (2147483647 : Int32)) + (1 : Int32))), .val (.int (p2 &&& (2147483647 : Int32))), .val (.int (p3 &&& (2147483647 : Int32))), .unset, .unset] [(.ref b32)]) _
    refine st44 _ ?_
    show own_S p e below T44 (mkF m 153 #[.val (.int p1), .val (.int p2), .val (.int p3), .val (.int p4), .val (.int (0 : Int32)), .val (.int ((p1 &&& (2147483647 : Int32)) % (2147483647 : Int32))), .val (.int (p2 &&& (2147483647 : Int32))), .val (.int (p3 &&& (2147483647 : Int32))), .val (.ref b1), .val (.ref b32), .val (.int (((p1 &&& (2147483647 : Int32)) % (2147483647 : Int32)) + (1 : Int32))), .val (.int (p2 &&& (2147483647 : Int32))), .val (.int (p3 &&& (2147483647 : Int32))), .unset, .unset] [(.int (p2 &&& (2147483647 : Int32)))]) _
    refine XS.iload X44.here hx rfl (hb hby at_153) rfl ?_
    show own_S p e below T44 (mkF m 155 #[.val (.int p1), .val (.int p2), .val (.int p3), .val (.int p4), .val (.int (0 : Int32)), .val (.int ((p1 &&& (2147483647 : Int32)) % (2147483647 : Int32))), .val (.int (p2 &&& (2147483647 : Int32))), .val (.int (p3 &&& (2147483647 : Int32))), .val (.ref b1), .val (.ref b32), .val (.int (((p1 &&& (2147483647 : Int32)) % (2147483647 : Int32)) + (1 : Int32))), .val (.int (p2 &&& (2147483647 : Int32))), .val (.int (p3 &&& (2147483647 : Int32))), .unset, .unset] [(.int (p2 &&& (2147483647 : Int32))), (.int (p2 &&& (2147483647 : Int32)))]) _
    refine XS.icmpNo X44.here hx rfl (hb hby at_155) rfl (teq (rfl : (p2 &&& (2147483647 : Int32)) = (p2 &&& (2147483647 : Int32)))).2 ?_
    show own_S p e below T44 (mkF m 158 #[.val (.int p1), .val (.int p2), .val (.int p3), .val (.int p4), .val (.int (0 : Int32)), .val (.int ((p1 &&& (2147483647 : Int32)) % (2147483647 : Int32))), .val (.int (p2 &&& (2147483647 : Int32))), .val (.int (p3 &&& (2147483647 : Int32))), .val (.ref b1), .val (.ref b32), .val (.int (((p1 &&& (2147483647 : Int32)) % (2147483647 : Int32)) + (1 : Int32))), .val (.int (p2 &&& (2147483647 : Int32))), .val (.int (p3 &&& (2147483647 : Int32))), .unset, .unset] []) _
    refine XS.aload X44.here hx rfl (hb hby at_158) rfl rfl ?_
    show own_S p e below T44 (mkF m 160 #[.val (.int p1), .val (.int p2), .val (.int p3), .val (.int p4), .val (.int (0 : Int32)), .val (.int ((p1 &&& (2147483647 : Int32)) % (2147483647 : Int32))), .val (.int (p2 &&& (2147483647 : Int32))), .val (.int (p3 &&& (2147483647 : Int32))), .val (.ref b1), .val (.ref b32), .val (.int (((p1 &&& (2147483647 : Int32)) % (2147483647 : Int32)) + (1 : Int32))), .val (.int (p2 &&& (2147483647 : Int32))), .val (.int (p3 &&& (2147483647 : Int32))), .unset, .unset] [(.ref b32)]) _
    refine st50 _ ?_
    show own_S p e below T50 (mkF m 163 #[.val (.int p1), .val (.int p2), .val (.int p3), .val (.int p4), .val (.int (0 : Int32)), .val (.int ((p1 &&& (2147483647 : Int32)) % (2147483647 : Int32))), .val (.int (p2 &&& (2147483647 : Int32))), .val (.int (p3 &&& (2147483647 : Int32))), .val (.ref b1), .val (.ref b32), .val (.int (((p1 &&& (2147483647 : Int32)) % (2147483647 : Int32)) + (1 : Int32))), .val (.int (p2 &&& (2147483647 : Int32))), .val (.int (p3 &&& (2147483647 : Int32))), .unset, .unset] [(.int (p3 &&& (2147483647 : Int32)))]) _
    refine XS.iload X50.here hx rfl (hb hby at_163) rfl ?_
    show own_S p e below T50 (mkF m 165 #[.val (.int p1), .val (.int p2), .val (.int p3), .val (.int p4), .val (.int (0 : Int32)), .val (.int ((p1 &&& (2147483647 : Int32)) % (2147483647 : Int32))), .val (.int (p2 &&& (2147483647 : Int32))), .val (.int (p3 &&& (2147483647 : Int32))), .val (.ref b1), .val (.ref b32), .val (.int (((p1 &&& (2147483647 : Int32)) % (2147483647 : Int32)) + (1 : Int32))), .val (.int (p2 &&& (2147483647 : Int32))), .val (.int (p3 &&& (2147483647 : Int32))), .unset, .unset] [(.int (p3 &&& (2147483647 : Int32))), (.int (p3 &&& (2147483647 : Int32)))]) _
    refine XS.icmpNo X50.here hx rfl (hb hby at_165) rfl (teq (rfl : (p3 &&& (2147483647 : Int32)) = (p3 &&& (2147483647 : Int32)))).2 ?_
    show own_S p e below T50 (mkF m 168 #[.val (.int p1), .val (.int p2), .val (.int p3), .val (.int p4), .val (.int (0 : Int32)), .val (.int ((p1 &&& (2147483647 : Int32)) % (2147483647 : Int32))), .val (.int (p2 &&& (2147483647 : Int32))), .val (.int (p3 &&& (2147483647 : Int32))), .val (.ref b1), .val (.ref b32), .val (.int (((p1 &&& (2147483647 : Int32)) % (2147483647 : Int32)) + (1 : Int32))), .val (.int (p2 &&& (2147483647 : Int32))), .val (.int (p3 &&& (2147483647 : Int32))), .unset, .unset] []) _
    refine XS.iconst X50.here hx rfl (hb hby at_168) ?_
    show own_S p e below T50 (mkF m 169 #[.val (.int p1), .val (.int p2), .val (.int p3), .val (.int p4), .val (.int (0 : Int32)), .val (.int ((p1 &&& (2147483647 : Int32)) % (2147483647 : Int32))), .val (.int (p2 &&& (2147483647 : Int32))), .val (.int (p3 &&& (2147483647 : Int32))), .val (.ref b1), .val (.ref b32), .val (.int (((p1 &&& (2147483647 : Int32)) % (2147483647 : Int32)) + (1 : Int32))), .val (.int (p2 &&& (2147483647 : Int32))), .val (.int (p3 &&& (2147483647 : Int32))), .unset, .unset] [(.int (1 : Int32))]) _
    refine XS.goto X50.here hx rfl (pc0 := 169) (pc' := 173) rfl (hb hby at_169) (by decide) (by decide) ?_
    show own_S p e below T50 (mkF m 173 #[.val (.int p1), .val (.int p2), .val (.int p3), .val (.int p4), .val (.int (0 : Int32)), .val (.int ((p1 &&& (2147483647 : Int32)) % (2147483647 : Int32))), .val (.int (p2 &&& (2147483647 : Int32))), .val (.int (p3 &&& (2147483647 : Int32))), .val (.ref b1), .val (.ref b32), .val (.int (((p1 &&& (2147483647 : Int32)) % (2147483647 : Int32)) + (1 : Int32))), .val (.int (p2 &&& (2147483647 : Int32))), .val (.int (p3 &&& (2147483647 : Int32))), .unset, .unset] [(.int (1 : Int32))]) _
    refine XS.istore X50.here hx rfl (hb hby at_173) rfl (l' := #[.val (.int p1), .val (.int p2), .val (.int p3), .val (.int p4), .val (.int (0 : Int32)), .val (.int ((p1 &&& (2147483647 : Int32)) % (2147483647 : Int32))), .val (.int (p2 &&& (2147483647 : Int32))), .val (.int (p3 &&& (2147483647 : Int32))), .val (.ref b1), .val (.ref b32), .val (.int (((p1 &&& (2147483647 : Int32)) % (2147483647 : Int32)) + (1 : Int32))), .val (.int (p2 &&& (2147483647 : Int32))), .val (.int (p3 &&& (2147483647 : Int32))), .val (.int (1 : Int32)), .unset]) rfl ?_
    show own_S p e below T50 (mkF m 175 #[.val (.int p1), .val (.int p2), .val (.int p3), .val (.int p4), .val (.int (0 : Int32)), .val (.int ((p1 &&& (2147483647 : Int32)) % (2147483647 : Int32))), .val (.int (p2 &&& (2147483647 : Int32))), .val (.int (p3 &&& (2147483647 : Int32))), .val (.ref b1), .val (.ref b32), .val (.int (((p1 &&& (2147483647 : Int32)) % (2147483647 : Int32)) + (1 : Int32))), .val (.int (p2 &&& (2147483647 : Int32))), .val (.int (p3 &&& (2147483647 : Int32))), .val (.int (1 : Int32)), .unset] []) _
    refine XS.aload X50.here hx rfl (hb hby at_175) rfl rfl ?_
    show own_S p e below T50 (mkF m 177 #[.val (.int p1), .val (.int p2), .val (.int p3), .val (.int p4), .val (.int (0 : Int32)), .val (.int ((p1 &&& (2147483647 : Int32)) % (2147483647 : Int32))), .val (.int (p2 &&& (2147483647 : Int32))), .val (.int (p3 &&& (2147483647 : Int32))), .val (.ref b1), .val (.ref b32), .val (.int (((p1 &&& (2147483647 : Int32)) % (2147483647 : Int32)) + (1 : Int32))), .val (.int (p2 &&& (2147483647 : Int32))), .val (.int (p3 &&& (2147483647 : Int32))), .val (.int (1 : Int32)), .unset] [(.ref b1)]) _
    refine st51 _ ?_
    show own_S p e below T51 (mkF m 180 #[.val (.int p1), .val (.int p2), .val (.int p3), .val (.int p4), .val (.int (0 : Int32)), .val (.int ((p1 &&& (2147483647 : Int32)) % (2147483647 : Int32))), .val (.int (p2 &&& (2147483647 : Int32))), .val (.int (p3 &&& (2147483647 : Int32))), .val (.ref b1), .val (.ref b32), .val (.int (((p1 &&& (2147483647 : Int32)) % (2147483647 : Int32)) + (1 : Int32))), .val (.int (p2 &&& (2147483647 : Int32))), .val (.int (p3 &&& (2147483647 : Int32))), .val (.int (1 : Int32)), .unset] [(.int ((p1 &&& (2147483647 : Int32)) % (2147483647 : Int32)))]) _
    refine XS.iload X51.here hx rfl (hb hby at_180) rfl ?_
    show own_S p e below T51 (mkF m 182 #[.val (.int p1), .val (.int p2), .val (.int p3), .val (.int p4), .val (.int (0 : Int32)), .val (.int ((p1 &&& (2147483647 : Int32)) % (2147483647 : Int32))), .val (.int (p2 &&& (2147483647 : Int32))), .val (.int (p3 &&& (2147483647 : Int32))), .val (.ref b1), .val (.ref b32), .val (.int (((p1 &&& (2147483647 : Int32)) % (2147483647 : Int32)) + (1 : Int32))), .val (.int (p2 &&& (2147483647 : Int32))), .val (.int (p3 &&& (2147483647 : Int32))), .val (.int (1 : Int32)), .unset] [(.int ((p1 &&& (2147483647 : Int32)) % (2147483647 : Int32))), (.int ((p1 &&& (2147483647 : Int32)) % (2147483647 : Int32)))]) _
    refine XS.icmpNo X51.here hx rfl (hb hby at_182) rfl (teq (rfl : ((p1 &&& (2147483647 : Int32)) % (2147483647 : Int32)) = ((p1 &&& (2147483647 : Int32)) % (2147483647 : Int32)))).2 ?_
    show own_S p e below T51 (mkF m 185 #[.val (.int p1), .val (.int p2), .val (.int p3), .val (.int p4), .val (.int (0 : Int32)), .val (.int ((p1 &&& (2147483647 : Int32)) % (2147483647 : Int32))), .val (.int (p2 &&& (2147483647 : Int32))), .val (.int (p3 &&& (2147483647 : Int32))), .val (.ref b1), .val (.ref b32), .val (.int (((p1 &&& (2147483647 : Int32)) % (2147483647 : Int32)) + (1 : Int32))), .val (.int (p2 &&& (2147483647 : Int32))), .val (.int (p3 &&& (2147483647 : Int32))), .val (.int (1 : Int32)), .unset] []) _
    refine XS.aload X51.here hx rfl (hb hby at_185) rfl rfl ?_
    show own_S p e below T51 (mkF m 187 #[.val (.int p1), .val (.int p2), .val (.int p3), .val (.int p4), .val (.int (0 : Int32)), .val (.int ((p1 &&& (2147483647 : Int32)) % (2147483647 : Int32))), .val (.int (p2 &&& (2147483647 : Int32))), .val (.int (p3 &&& (2147483647 : Int32))), .val (.ref b1), .val (.ref b32), .val (.int (((p1 &&& (2147483647 : Int32)) % (2147483647 : Int32)) + (1 : Int32))), .val (.int (p2 &&& (2147483647 : Int32))), .val (.int (p3 &&& (2147483647 : Int32))), .val (.int (1 : Int32)), .unset] [(.ref b1)]) _
    refine st52 _ ?_
    show own_S p e below T52 (mkF m 190 #[.val (.int p1), .val (.int p2), .val (.int p3), .val (.int p4), .val (.int (0 : Int32)), .val (.int ((p1 &&& (2147483647 : Int32)) % (2147483647 : Int32))), .val (.int (p2 &&& (2147483647 : Int32))), .val (.int (p3 &&& (2147483647 : Int32))), .val (.ref b1), .val (.ref b32), .val (.int (((p1 &&& (2147483647 : Int32)) % (2147483647 : Int32)) + (1 : Int32))), .val (.int (p2 &&& (2147483647 : Int32))), .val (.int (p3 &&& (2147483647 : Int32))), .val (.int (1 : Int32)), .unset] [(.int (p2 &&& (2147483647 : Int32)))]) _
    refine XS.iload X52.here hx rfl (hb hby at_190) rfl ?_
    show own_S p e below T52 (mkF m 192 #[.val (.int p1), .val (.int p2), .val (.int p3), .val (.int p4), .val (.int (0 : Int32)), .val (.int ((p1 &&& (2147483647 : Int32)) % (2147483647 : Int32))), .val (.int (p2 &&& (2147483647 : Int32))), .val (.int (p3 &&& (2147483647 : Int32))), .val (.ref b1), .val (.ref b32), .val (.int (((p1 &&& (2147483647 : Int32)) % (2147483647 : Int32)) + (1 : Int32))), .val (.int (p2 &&& (2147483647 : Int32))), .val (.int (p3 &&& (2147483647 : Int32))), .val (.int (1 : Int32)), .unset] [(.int (p2 &&& (2147483647 : Int32))), (.int (p2 &&& (2147483647 : Int32)))]) _
    refine XS.icmpNo X52.here hx rfl (hb hby at_192) rfl (teq (rfl : (p2 &&& (2147483647 : Int32)) = (p2 &&& (2147483647 : Int32)))).2 ?_
    show own_S p e below T52 (mkF m 195 #[.val (.int p1), .val (.int p2), .val (.int p3), .val (.int p4), .val (.int (0 : Int32)), .val (.int ((p1 &&& (2147483647 : Int32)) % (2147483647 : Int32))), .val (.int (p2 &&& (2147483647 : Int32))), .val (.int (p3 &&& (2147483647 : Int32))), .val (.ref b1), .val (.ref b32), .val (.int (((p1 &&& (2147483647 : Int32)) % (2147483647 : Int32)) + (1 : Int32))), .val (.int (p2 &&& (2147483647 : Int32))), .val (.int (p3 &&& (2147483647 : Int32))), .val (.int (1 : Int32)), .unset] []) _
    refine XS.aload X52.here hx rfl (hb hby at_195) rfl rfl ?_
    show own_S p e below T52 (mkF m 197 #[.val (.int p1), .val (.int p2), .val (.int p3), .val (.int p4), .val (.int (0 : Int32)), .val (.int ((p1 &&& (2147483647 : Int32)) % (2147483647 : Int32))), .val (.int (p2 &&& (2147483647 : Int32))), .val (.int (p3 &&& (2147483647 : Int32))), .val (.ref b1), .val (.ref b32), .val (.int (((p1 &&& (2147483647 : Int32)) % (2147483647 : Int32)) + (1 : Int32))), .val (.int (p2 &&& (2147483647 : Int32))), .val (.int (p3 &&& (2147483647 : Int32))), .val (.int (1 : Int32)), .unset] [(.ref b1)]) _
    refine st53 _ ?_
    show own_S p e below T53 (mkF m 200 #[.val (.int p1), .val (.int p2), .val (.int p3), .val (.int p4), .val (.int (0 : Int32)), .val (.int ((p1 &&& (2147483647 : Int32)) % (2147483647 : Int32))), .val (.int (p2 &&& (2147483647 : Int32))), .val (.int (p3 &&& (2147483647 : Int32))), .val (.ref b1), .val (.ref b32), .val (.int (((p1 &&& (2147483647 : Int32)) % (2147483647 : Int32)) + (1 : Int32))), .val (.int (p2 &&& (2147483647 : Int32))), .val (.int (p3 &&& (2147483647 : Int32))), .val (.int (1 : Int32)), .unset] [(.int (p3 &&& (2147483647 : Int32)))]) _
    refine XS.iload X53.here hx rfl (hb hby at_200) rfl ?_
    show own_S p e below T53 (mkF m 202 #[.val (.int p1), .val (.int p2), .val (.int p3), .val (.int p4), .val (.int (0 : Int32)), .val (.int ((p1 &&& (2147483647 : Int32)) % (2147483647 : Int32))), .val (.int (p2 &&& (2147483647 : Int32))), .val (.int (p3 &&& (2147483647 : Int32))), .val (.ref b1), .val (.ref b32), .val (.int (((p1 &&& (2147483647 : Int32)) % (2147483647 : Int32)) + (1 : Int32))), .val (.int (p2 &&& (2147483647 : Int32))), .val (.int (p3 &&& (2147483647 : Int32))), .val (.int (1 : Int32)), .unset] [(.int (p3 &&& (2147483647 : Int32))), (.int (p3 &&& (2147483647 : Int32)))]) _
    refine XS.icmpNo X53.here hx rfl (hb hby at_202) rfl (teq (rfl : (p3 &&& (2147483647 : Int32)) = (p3 &&& (2147483647 : Int32)))).2 ?_
    show own_S p e below T53 (mkF m 205 #[.val (.int p1), .val (.int p2), .val (.int p3), .val (.int p4), .val (.int (0 : Int32)), .val (.int ((p1 &&& (2147483647 : Int32)) % (2147483647 : Int32))), .val (.int (p2 &&& (2147483647 : Int32))), .val (.int (p3 &&& (2147483647 : Int32))), .val (.ref b1), .val (.ref b32), .val (.int (((p1 &&& (2147483647 : Int32)) % (2147483647 : Int32)) + (1 : Int32))), .val (.int (p2 &&& (2147483647 : Int32))), .val (.int (p3 &&& (2147483647 : Int32))), .val (.int (1 : Int32)), .unset] []) _
    refine XS.iconst X53.here hx rfl (hb hby at_205) ?_
    show own_S p e below T53 (mkF m 206 #[.val (.int p1), .val (.int p2), .val (.int p3), .val (.int p4), .val (.int (0 : Int32)), .val (.int ((p1 &&& (2147483647 : Int32)) % (2147483647 : Int32))), .val (.int (p2 &&& (2147483647 : Int32))), .val (.int (p3 &&& (2147483647 : Int32))), .val (.ref b1), .val (.ref b32), .val (.int (((p1 &&& (2147483647 : Int32)) % (2147483647 : Int32)) + (1 : Int32))), .val (.int (p2 &&& (2147483647 : Int32))), .val (.int (p3 &&& (2147483647 : Int32))), .val (.int (1 : Int32)), .unset] [(.int (1 : Int32))]) _
    refine XS.goto X53.here hx rfl (pc0 := 206) (pc' := 210) rfl (hb hby at_206) (by decide) (by decide) ?_
    show own_S p e below T53 (mkF m 210 #[.val (.int p1), .val (.int p2), .val (.int p3), .val (.int p4), .val (.int (0 : Int32)), .val (.int ((p1 &&& (2147483647 : Int32)) % (2147483647 : Int32))), .val (.int (p2 &&& (2147483647 : Int32))), .val (.int (p3 &&& (2147483647 : Int32))), .val (.ref b1), .val (.ref b32), .val (.int (((p1 &&& (2147483647 : Int32)) % (2147483647 : Int32)) + (1 : Int32))), .val (.int (p2 &&& (2147483647 : Int32))), .val (.int (p3 &&& (2147483647 : Int32))), .val (.int (1 : Int32)), .unset] [(.int (1 : Int32))]) _
    refine XS.istore X53.here hx rfl (hb hby at_210) rfl (l' := #[.val (.int p1), .val (.int p2), .val (.int p3), .val (.int p4), .val (.int (0 : Int32)), .val (.int ((p1 &&& (2147483647 : Int32)) % (2147483647 : Int32))), .val (.int (p2 &&& (2147483647 : Int32))), .val (.int (p3 &&& (2147483647 : Int32))), .val (.ref b1), .val (.ref b32), .val (.int (((p1 &&& (2147483647 : Int32)) % (2147483647 : Int32)) + (1 : Int32))), .val (.int (p2 &&& (2147483647 : Int32))), .val (.int (p3 &&& (2147483647 : Int32))), .val (.int (1 : Int32)), .val (.int (1 : Int32))]) rfl ?_
    show own_S p e below T53 (mkF m 212 #[.val (.int p1), .val (.int p2), .val (.int p3), .val (.int p4), .val (.int (0 : Int32)), .val (.int ((p1 &&& (2147483647 : Int32)) % (2147483647 : Int32))), .val (.int (p2 &&& (2147483647 : Int32))), .val (.int (p3 &&& (2147483647 : Int32))), .val (.ref b1), .val (.ref b32), .val (.int (((p1 &&& (2147483647 : Int32)) % (2147483647 : Int32)) + (1 : Int32))), .val (.int (p2 &&& (2147483647 : Int32))), .val (.int (p3 &&& (2147483647 : Int32))), .val (.int (1 : Int32)), .val (.int (1 : Int32))] []) _
    refine XS.iload X53.here hx rfl (hb hby at_212) rfl ?_
    show own_S p e below T53 (mkF m 214 #[.val (.int p1), .val (.int p2), .val (.int p3), .val (.int p4), .val (.int (0 : Int32)), .val (.int ((p1 &&& (2147483647 : Int32)) % (2147483647 : Int32))), .val (.int (p2 &&& (2147483647 : Int32))), .val (.int (p3 &&& (2147483647 : Int32))), .val (.ref b1), .val (.ref b32), .val (.int (((p1 &&& (2147483647 : Int32)) % (2147483647 : Int32)) + (1 : Int32))), .val (.int (p2 &&& (2147483647 : Int32))), .val (.int (p3 &&& (2147483647 : Int32))), .val (.int (1 : Int32)), .val (.int (1 : Int32))] [(.int (1 : Int32))]) _
    refine XS.ifNo X53.here hx rfl (hb hby at_214) rfl ((if0 _ _).trans (feq (by decide : ¬ ((1 : Int32) = (0 : Int32)))).1) ?_
    show own_S p e below T53 (mkF m 217 #[.val (.int p1), .val (.int p2), .val (.int p3), .val (.int p4), .val (.int (0 : Int32)), .val (.int ((p1 &&& (2147483647 : Int32)) % (2147483647 : Int32))), .val (.int (p2 &&& (2147483647 : Int32))), .val (.int (p3 &&& (2147483647 : Int32))), .val (.ref b1), .val (.ref b32), .val (.int (((p1 &&& (2147483647 : Int32)) % (2147483647 : Int32)) + (1 : Int32))), .val (.int (p2 &&& (2147483647 : Int32))), .val (.int (p3 &&& (2147483647 : Int32))), .val (.int (1 : Int32)), .val (.int (1 : Int32))] []) _
    refine XS.iload X53.here hx rfl (hb hby at_217) rfl ?_
    show own_S p e below T53 (mkF m 219 #[.val (.int p1), .val (.int p2), .val (.int p3), .val (.int p4), .val (.int (0 : Int32)), .val (.int ((p1 &&& (2147483647 : Int32)) % (2147483647 : Int32))), .val (.int (p2 &&& (2147483647 : Int32))), .val (.int (p3 &&& (2147483647 : Int32))), .val (.ref b1), .val (.ref b32), .val (.int (((p1 &&& (2147483647 : Int32)) % (2147483647 : Int32)) + (1 : Int32))), .val (.int (p2 &&& (2147483647 : Int32))), .val (.int (p3 &&& (2147483647 : Int32))), .val (.int (1 : Int32)), .val (.int (1 : Int32))] [(.int (1 : Int32))]) _
    refine XS.ifNo X53.here hx rfl (hb hby at_219) rfl ((if0 _ _).trans (feq (by decide : ¬ ((1 : Int32) = (0 : Int32)))).1) ?_
    show own_S p e below T53 (mkF m 222 #[.val (.int p1), .val (.int p2), .val (.int p3), .val (.int p4), .val (.int (0 : Int32)), .val (.int ((p1 &&& (2147483647 : Int32)) % (2147483647 : Int32))), .val (.int (p2 &&& (2147483647 : Int32))), .val (.int (p3 &&& (2147483647 : Int32))), .val (.ref b1), .val (.ref b32), .val (.int (((p1 &&& (2147483647 : Int32)) % (2147483647 : Int32)) + (1 : Int32))), .val (.int (p2 &&& (2147483647 : Int32))), .val (.int (p3 &&& (2147483647 : Int32))), .val (.int (1 : Int32)), .val (.int (1 : Int32))] []) _
    refine XS.iconst X53.here hx rfl (hb hby at_222) ?_
    show own_S p e below T53 (mkF m 223 #[.val (.int p1), .val (.int p2), .val (.int p3), .val (.int p4), .val (.int (0 : Int32)), .val (.int ((p1 &&& (2147483647 : Int32)) % (2147483647 : Int32))), .val (.int (p2 &&& (2147483647 : Int32))), .val (.int (p3 &&& (2147483647 : Int32))), .val (.ref b1), .val (.ref b32), .val (.int (((p1 &&& (2147483647 : Int32)) % (2147483647 : Int32)) + (1 : Int32))), .val (.int (p2 &&& (2147483647 : Int32))), .val (.int (p3 &&& (2147483647 : Int32))), .val (.int (1 : Int32)), .val (.int (1 : Int32))] [(.int (1 : Int32))]) _
    refine XS.goto X53.here hx rfl (pc0 := 223) (pc' := 227) rfl (hb hby at_223) (by decide) (by decide) ?_
    show own_S p e below T53 (mkF m 227 #[.val (.int p1), .val (.int p2), .val (.int p3), .val (.int p4), .val (.int (0 : Int32)), .val (.int ((p1 &&& (2147483647 : Int32)) % (2147483647 : Int32))), .val (.int (p2 &&& (2147483647 : Int32))), .val (.int (p3 &&& (2147483647 : Int32))), .val (.ref b1), .val (.ref b32), .val (.int (((p1 &&& (2147483647 : Int32)) % (2147483647 : Int32)) + (1 : Int32))), .val (.int (p2 &&& (2147483647 : Int32))), .val (.int (p3 &&& (2147483647 : Int32))), .val (.int (1 : Int32)), .val (.int (1 : Int32))] [(.int (1 : Int32))]) _
    exact retN X53 hx (t := .boolean) hret (by simp) (hb hby at_227) hr
  · show Qrm0_0 Z w__SwitchMap_com_example_fill_realm_fillrealm_Outcome cl_w__SwitchMap_com_example_fill_realm_fillrealm_Outcome w_CREATED p1 p2 p3 p4 h0 _ T53.heap _
    exact ⟨rfl, N53⟩
def Qrm56 (Z : State) (w_SKIPPED : Addr) (h0 : Heap) (v : Option Value) (h : Heap) (L : List Loc) : Prop := v = some (.ref w_SKIPPED) ∧ Fr Z.heap.size L ∧ h = h0
set_option maxRecDepth 65536 in
set_option maxHeartbeats 40000000 in
theorem rm56 (l : Launch) (Z : State) (a0 : Array Value) (hw : ∀ d ∈ tables_1, d.before a0 Z = true) (ws : List Jvm.Cond) (w_SKIPPED : Addr) (h0 : Heap) (Z0 : Ext Z.heap h0) (S_w_SKIPPED : Sta Z Z.heap "com/example/fill_realm/fillrealm/Outcome" "SKIPPED" "Lcom/example/fill_realm/fillrealm/Outcome;" (.ref w_SKIPPED)) :
    own_met l y_1 method_2_code 1 (some (.object "com/example/fill_realm/fillrealm/Outcome")) ws ({ frames := 0, cells := 0, slots := 0, locals := 0 } : Room) Z #[(.int (1 : Int32))] h0 (Qrm56 Z w_SKIPPED h0) := by
  refine own_start (plainFor_of_name pn_1) (fun m => ef_method_2_I m (1 : Int32)) ?_
  intro p e s m below meth c s₁ hx hby hml hown hnm X0 hZ e0 hret hlk
  have N0 := Fr.nil Z.heap.size
  obtain ⟨T57, X57, e57, st57⟩ := getS2 X0 hx hZ hown (host := "") (Or.inl (own_w hw 20 rfl)) Via.refl e0 (S_w_SKIPPED.ext Z0) (g := (mkF m 13 #[.val (.int (1 : Int32))] [])) rfl (hb hby d_method_2_13)
  obtain ⟨fs, hr, hrun, hended, hW, hsame⟩ := X57.leave (v := some (.ref w_SKIPPED)) (fun h => by rw [hret] at h; cases h) hlk
  refine ⟨_, _, ?_, hrun, hended, _, _, rfl, ?_, ⟨_, rfl⟩, hW, hsame.mono (by decide) (by decide)⟩
  · show own_S p e below s₁ (mkF m 0 #[.val (.int (1 : Int32))] []) _
    refine XS.iloadN X0.here hx rfl (hb hby d_method_2_0) rfl ?_
    show own_S p e below s₁ (mkF m 1 #[.val (.int (1 : Int32))] [(.int (1 : Int32))]) _
    refine XS.ifYes X0.here hx rfl (pc0 := 1) (pc' := 8) rfl (hb hby d_method_2_1) rfl ((if0 _ _).trans (feq (by decide : ¬ ((1 : Int32) = (0 : Int32)))).2) (by decide) (by decide) ?_
    show own_S p e below s₁ (mkF m 8 #[.val (.int (1 : Int32))] []) _
    refine XS.iloadN X0.here hx rfl (hb hby d_method_2_8) rfl ?_
    show own_S p e below s₁ (mkF m 9 #[.val (.int (1 : Int32))] [(.int (1 : Int32))]) _
    refine XS.iconst X0.here hx rfl (hb hby d_method_2_9) ?_
    show own_S p e below s₁ (mkF m 10 #[.val (.int (1 : Int32))] [(.int (1 : Int32)), (.int (1 : Int32))]) _
    refine XS.icmpNo X0.here hx rfl (hb hby d_method_2_10) rfl (teq (rfl : (1 : Int32) = (1 : Int32))).2 ?_
    show own_S p e below s₁ (mkF m 13 #[.val (.int (1 : Int32))] []) _
    refine st57 _ ?_
    show own_S p e below T57 (mkF m 16 #[.val (.int (1 : Int32))] [(.ref w_SKIPPED)]) _
    jvm_step X57.here [X57.here.top, hx, (hb hby d_method_2_16), X57.method', hret, Value.isRef, FieldType.isReference]
    first | (intro acts; rw [hr _ acts rfl rfl rfl]) | rw [hr _ _ rfl rfl rfl]
    exact Steps.refl _
  · show Qrm56 Z w_SKIPPED h0 _ T57.heap _
    rw [e57]
    exact ⟨rfl, N0, rfl⟩
def Qrm64 (Z : State) (w_SKIPPED : Addr) (h0 : Heap) (v : Option Value) (h : Heap) (L : List Loc) : Prop := v = some (.int (1 : Int32)) ∧ Fr Z.heap.size L ∧ h = h0
set_option maxRecDepth 65536 in
set_option maxHeartbeats 40000000 in
theorem rm64 (l : Launch) (Z : State) (a0 : Array Value) (hw : ∀ d ∈ tables_1, d.before a0 Z = true) (ws : List Jvm.Cond) (w_SKIPPED : Addr) (h0 : Heap) (Z0 : Ext Z.heap h0) (F_w_SKIPPED_ordinal : Fld Z Z.heap w_SKIPPED "java/lang/Enum" "ordinal" "I" (.int (1 : Int32))) :
    own_met l y_2 jdk_37_method_2_code 1 (some .int) ws ({ frames := 0, cells := 0, slots := 0, locals := 0 } : Room) Z #[(.ref w_SKIPPED)] h0 (Qrm64 Z w_SKIPPED h0) := by
  refine own_start (plainFor_of_name pn_2) (fun m => ef_jdk_37_method_2_R m w_SKIPPED) ?_
  intro p e s m below meth c s₁ hx hby hml hown hnm X0 hZ e0 hret hlk
  have N0 := Fr.nil Z.heap.size
  obtain ⟨T65, X65, e65, st65⟩ := getF X0 hx hZ hown (host := "") (Or.inl (own_w hw 38 rfl)) Via.refl e0 (F_w_SKIPPED_ordinal.ext Z0) (g := (mkF m 1 #[.val (.ref w_SKIPPED)] [(.ref w_SKIPPED)])) rfl rfl (hb hby d_jdk_37_method_2_1)
  obtain ⟨fs, hr, hrun, hended, hW, hsame⟩ := X65.leave (v := some (.int (1 : Int32))) (fun h => by rw [hret] at h; cases h) hlk
  refine ⟨_, _, ?_, hrun, hended, _, _, rfl, ?_, ⟨_, rfl⟩, hW, hsame.mono (by decide) (by decide)⟩
  · show own_S p e below s₁ (mkF m 0 #[.val (.ref w_SKIPPED)] []) _
    refine XS.aloadN X0.here hx rfl (hb hby d_jdk_37_method_2_0) rfl rfl ?_
    show own_S p e below s₁ (mkF m 1 #[.val (.ref w_SKIPPED)] [(.ref w_SKIPPED)]) _
    refine st65 _ ?_
    show own_S p e below T65 (mkF m 4 #[.val (.ref w_SKIPPED)] [(.int (1 : Int32))]) _
    exact retI X65 hx hret (hb hby d_jdk_37_method_2_4) hr
  · show Qrm64 Z w_SKIPPED h0 _ T65.heap _
    rw [e65]
    exact ⟨rfl, N0, rfl⟩
def Qrm62 (Z : State) (w_SKIPPED : Addr) (w__SwitchMap_com_example_fill_realm_fillrealm_Outcome : Addr) (cl_w__SwitchMap_com_example_fill_realm_fillrealm_Outcome : Cell) (b54 : Addr) (x59 : Int32) (x60 : Int32) (x61 : Int32) (h0 : Heap) (v : Option Value) (h : Heap) (L : List Loc) : Prop := ∃ b67 : Addr, v = some (.ref b67) ∧ Fr Z.heap.size L ∧ Keep h0 h [] ∧ h0.size ≤ b67 ∧ Exa Z h b67 "com/example/fill_realm/fillrealm/Summary" ∧ Fld Z h b67 "com/example/fill_realm/fillrealm/Summary" "created" "I" (.int x59) ∧ Fld Z h b67 "com/example/fill_realm/fillrealm/Summary" "skipped" "I" (.int (x60 + (1 : Int32))) ∧ Fld Z h b67 "com/example/fill_realm/fillrealm/Summary" "failed" "I" (.int x61)
set_option maxRecDepth 65536 in
set_option maxHeartbeats 40000000 in
theorem rm62 (l : Launch) (Z : State) (a0 : Array Value) (hw : ∀ d ∈ tables_1, d.before a0 Z = true) (ws : List Jvm.Cond) (w_SKIPPED : Addr) (w__SwitchMap_com_example_fill_realm_fillrealm_Outcome : Addr) (cl_w__SwitchMap_com_example_fill_realm_fillrealm_Outcome : Cell) (b54 : Addr) (x59 : Int32) (x60 : Int32) (x61 : Int32) (h0 : Heap) (Z0 : Ext Z.heap h0) (S_w__SwitchMap_com_example_fill_realm_fillrealm_Outcome : Sta Z Z.heap "com/example/fill_realm/fillrealm/Summary$1" "$SwitchMap$com$example$fill_realm$fillrealm$Outcome" "[I" (.ref w__SwitchMap_com_example_fill_realm_fillrealm_Outcome)) (E_w_SKIPPED : Exa Z Z.heap w_SKIPPED "com/example/fill_realm/fillrealm/Outcome") (F_w_SKIPPED_ordinal : Fld Z Z.heap w_SKIPPED "java/lang/Enum" "ordinal" "I" (.int (1 : Int32))) (Ar_w__SwitchMap_com_example_fill_realm_fillrealm_Outcome : Arr Z Z.heap w__SwitchMap_com_example_fill_realm_fillrealm_Outcome cl_w__SwitchMap_com_example_fill_realm_fillrealm_Outcome .int) (hin_w__SwitchMap_com_example_fill_realm_fillrealm_Outcome_1 : ¬ ((1 : Int32) < 0 ∨ cl_w__SwitchMap_com_example_fill_realm_fillrealm_Outcome.slots.size ≤ ((1 : Int32)).toNatClampNeg)) (hat_w__SwitchMap_com_example_fill_realm_fillrealm_Outcome_1 : cl_w__SwitchMap_com_example_fill_realm_fillrealm_Outcome.slots[((1 : Int32)).toNatClampNeg]? = some (.int (2 : Int32))) (F_b54_created : Fld Z h0 b54 "com/example/fill_realm/fillrealm/Summary" "created" "I" (.int x59)) (F_b54_failed : Fld Z h0 b54 "com/example/fill_realm/fillrealm/Summary" "failed" "I" (.int x61)) (F_b54_skipped : Fld Z h0 b54 "com/example/fill_realm/fillrealm/Summary" "skipped" "I" (.int x60)) (hc15 : ¬ (x59 < (0 : Int32))) (hc16 : ¬ ((x60 + (1 : Int32)) < (0 : Int32))) (hc17 : ¬ (x61 < (0 : Int32))) :
    own_met l y_4 prog_13_method_6_code 2 (some (.object "com/example/fill_realm/fillrealm/Summary")) ws ({ frames := 2, cells := 1, slots := 3, locals := 28 } : Room) Z #[(.ref b54), (.ref w_SKIPPED)] h0 (Qrm62 Z w_SKIPPED w__SwitchMap_com_example_fill_realm_fillrealm_Outcome cl_w__SwitchMap_com_example_fill_realm_fillrealm_Outcome b54 x59 x60 x61 h0) := by
  refine own_start (plainFor_of_name pn_0) (fun m => ef_prog_13_method_6_RR m b54 w_SKIPPED) ?_
  intro p e s m below meth c s₁ hx hby hml hown hnm X0 hZ e0 hret hlk
  have N0 := Fr.nil Z.heap.size
  obtain ⟨T63, X63, e63, st63⟩ := getS2 X0 hx hZ hown (host := "") (Or.inl (own_w hw 28 rfl)) Via.refl e0 (S_w__SwitchMap_com_example_fill_realm_fillrealm_Outcome.ext Z0) (g := (mkF m 0 #[.val (.ref b54), .val (.ref w_SKIPPED)] [])) rfl (hb hby d_prog_13_method_6_0)
  obtain ⟨_, T66, Lc66, X66, hQ66, st66⟩ := own_virtualUp (z := y_3) (y := y_2) (owner := "java/lang/Enum") X63 hx hZ hown (own_w hw 31 rfl) (own_w hw 32 rfl) (own_w hw 33 rfl) (own_w hw 35 rfl) (own_w hw 34 rfl) (own_w hw 36 rfl) (own_w hw 37 rfl) (by decide) (rm64 l Z a0 hw [] w_SKIPPED h0 Z0 F_w_SKIPPED_ordinal) (by decide) (by decide) e63 (E_w_SKIPPED.ext Z0) (g := (mkF m 4 #[.val (.ref b54), .val (.ref w_SKIPPED)] [(.ref w_SKIPPED), (.ref w__SwitchMap_com_example_fill_realm_fillrealm_Outcome)])) rfl (by rw [hml]; rfl) (argsL := []) (rest := [(.ref w__SwitchMap_com_example_fill_realm_fillrealm_Outcome)]) (lenOf pd_2 rfl) rfl rfl (W := 1) (by show 2 * 0 + _ ≤ _; exact Nat.le_of_eq rfl) (hb hby d_prog_13_method_6_4) (by decide) (by decide)
  obtain ⟨rfl, N66q, e66⟩ := hQ66
  have N66 := Fr.app N0 N66q
  obtain ⟨T67, h67, X67, e67, E67, A67, D67, -, st67⟩ := newO X66 hx hZ hown (own_w hw 40 rfl) (own_w hw 2 rfl) (own_w hw 3 rfl) e66 (g := (mkF m 70 #[.val (.ref b54), .val (.ref w_SKIPPED)] [])) rfl (hb hby d_prog_13_method_6_70) (by decide) (by decide)
  obtain ⟨b67, g67⟩ : ∃ z, z = h0.size := ⟨_, rfl⟩
  rw [← g67] at A67 D67 st67
  have g_b67 : Z.heap.size ≤ b67 := Nat.le_trans Z0.1 (Nat.le_of_eq g67.symm)
  have sz_b67 : h0.size ≤ b67 := Nat.le_trans (Keep.refl h0 []).1 (Nat.le_of_eq g67.symm)
  have F_b67_created : Fld Z h67 b67 "com/example/fill_realm/fillrealm/Summary" "created" "I" (.int (0 : Int32)) := D67 (Or.inr (own_w hw 11 rfl)) (ty := .int) (by decide)
  have F_b67_skipped : Fld Z h67 b67 "com/example/fill_realm/fillrealm/Summary" "skipped" "I" (.int (0 : Int32)) := D67 (Or.inr (own_w hw 13 rfl)) (ty := .int) (by decide)
  have F_b67_failed : Fld Z h67 b67 "com/example/fill_realm/fillrealm/Summary" "failed" "I" (.int (0 : Int32)) := D67 (Or.inr (own_w hw 15 rfl)) (ty := .int) (by decide)
  have K67 : Keep h0 h67 [] := (Keep.refl h0 []).ext E67
  have XX67 : Ext Z.heap h67 := own_ext2 Z0 E67
  obtain ⟨T68, X68, e68, st68⟩ := getF X67 hx hZ hown (host := "") (Or.inl (own_w hw 10 rfl)) Via.refl e67 (F_b54_created.ext E67) (g := (mkF m 75 #[.val (.ref b54), .val (.ref w_SKIPPED)] [(.ref b54), (.ref b67), (.ref b67)])) rfl rfl (hb hby d_prog_13_method_6_75)
  obtain ⟨T69, X69, e69, st69⟩ := getF X68 hx hZ hown (host := "") (Or.inl (own_w hw 12 rfl)) Via.refl e68 (F_b54_skipped.ext E67) (g := (mkF m 79 #[.val (.ref b54), .val (.ref w_SKIPPED)] [(.ref b54), (.int x59), (.ref b67), (.ref b67)])) rfl rfl (hb hby d_prog_13_method_6_79)
  obtain ⟨T70, X70, e70, st70⟩ := getF X69 hx hZ hown (host := "") (Or.inl (own_w hw 14 rfl)) Via.refl e69 (F_b54_failed.ext E67) (g := (mkF m 85 #[.val (.ref b54), .val (.ref w_SKIPPED)] [(.ref b54), (.int (x60 + (1 : Int32))), (.int x59), (.ref b67), (.ref b67)])) rfl rfl (hb hby d_prog_13_method_6_85)
  obtain ⟨_, T71, Lc71, X71, hQ71, st71⟩ := own_special (y := y_0) X70 hx hZ hown rfl (own_w hw 41 rfl) (own_w hw 5 rfl) (own_w hw 3 rfl) (own_w hw 6 rfl) (by decide) (rm5 l Z a0 hw [] b67 x59 (x60 + (1 : Int32)) x61 h67 XX67 A67 F_b67_created F_b67_failed F_b67_skipped g_b67 hc15 hc16 hc17) (by decide) (by decide) e70 (g := (mkF m 88 #[.val (.ref b54), .val (.ref w_SKIPPED)] [(.int x61), (.int (x60 + (1 : Int32))), (.int x59), (.ref b67), (.ref b67)])) rfl (by rw [hml]; rfl) b67 (argsL := [(.int x59), (.int (x60 + (1 : Int32))), (.int x61)]) (rest := [(.ref b67)]) (lenOf pd_0 rfl) rfl rfl (W := 1) (by show 2 * 0 + _ ≤ _; exact Nat.le_of_eq rfl) (hb hby d_prog_13_method_6_88) (by decide) (by decide)
  obtain ⟨rfl, N71q, K71q, q71_E_b67, q71_F_b67_created, q71_F_b67_failed, q71_F_b67_skipped⟩ := hQ71
  have K71 : Keep h0 T71.heap [] := K67.trans K71q (allS (Or.inr sz_b67) all0)
  have XX71 : Ext Z.heap T71.heap := own_extK XX67 K71q (allS g_b67 all0)
  have N71 := Fr.app N66 N71q
  obtain ⟨fs, hr, hrun, hended, hW, hsame⟩ := X71.leave (v := some (.ref b67)) (fun h => by rw [hret] at h; cases h) hlk
  refine ⟨_, _, ?_, hrun, hended, _, _, rfl, ?_, ⟨_, rfl⟩, hW, hsame.mono (by decide) (by decide)⟩
  · show own_S p e below s₁ (mkF m 0 #[.val (.ref b54), .val (.ref w_SKIPPED)] []) _
    refine st63 _ ?_
    show own_S p e below T63 (mkF m 3 #[.val (.ref b54), .val (.ref w_SKIPPED)] [(.ref w__SwitchMap_com_example_fill_realm_fillrealm_Outcome)]) _
    refine XS.aloadN X63.here hx rfl (hb hby d_prog_13_method_6_3) rfl rfl ?_
    show own_S p e below T63 (mkF m 4 #[.val (.ref b54), .val (.ref w_SKIPPED)] [(.ref w_SKIPPED), (.ref w__SwitchMap_com_example_fill_realm_fillrealm_Outcome)]) _
    refine st66 _ ?_
    show own_S p e below T66 (mkF m 7 #[.val (.ref b54), .val (.ref w_SKIPPED)] [(.int (1 : Int32)), (.ref w__SwitchMap_com_example_fill_realm_fillrealm_Outcome)]) _
    refine X66.iaload hx (j := (1 : Int32)) (v := (.int (2 : Int32))) (by rw [e66]; exact (Ar_w__SwitchMap_com_example_fill_realm_fillrealm_Outcome.ext Z0).1) (State.isArrayOf_alike hZ.alike (Ar_w__SwitchMap_com_example_fill_realm_fillrealm_Outcome.ext Z0).2.1) (Ar_w__SwitchMap_com_example_fill_realm_fillrealm_Outcome.ext Z0).2.2 hin_w__SwitchMap_com_example_fill_realm_fillrealm_Outcome_1 hat_w__SwitchMap_com_example_fill_realm_fillrealm_Outcome_1 (g := (mkF m 7 #[.val (.ref b54), .val (.ref w_SKIPPED)] [(.int (1 : Int32)), (.ref w__SwitchMap_com_example_fill_realm_fillrealm_Outcome)])) rfl rfl (hb hby d_prog_13_method_6_7) _ ?_
    show own_S p e below T66 (mkF m 8 #[.val (.ref b54), .val (.ref w_SKIPPED)] [(.int (2 : Int32))]) _
    refine XS.tswIn X66.here hx rfl (pc0 := 8) (pc' := 70) (o := 62) rfl (hb hby d_prog_13_method_6_8) rfl (by decide) (by decide) (by decide) (by decide) ?_
    show own_S p e below T66 (mkF m 70 #[.val (.ref b54), .val (.ref w_SKIPPED)] []) _
    refine st67 _ ?_
    show own_S p e below T67 (mkF m 73 #[.val (.ref b54), .val (.ref w_SKIPPED)] [(.ref b67)]) _
    refine XS.dup X67.here hx rfl (hb hby d_prog_13_method_6_73) rfl rfl ?_
    show own_S p e below T67 (mkF m 74 #[.val (.ref b54), .val (.ref w_SKIPPED)] [(.ref b67), (.ref b67)]) _
    refine XS.aloadN X67.here hx rfl (hb hby d_prog_13_method_6_74) rfl rfl ?_
    show own_S p e below T67 (mkF m 75 #[.val (.ref b54), .val (.ref w_SKIPPED)] [(.ref b54), (.ref b67), (.ref b67)]) _
    refine st68 _ ?_
    show own_S p e below T68 (mkF m 78 #[.val (.ref b54), .val (.ref w_SKIPPED)] [(.int x59), (.ref b67), (.ref b67)]) _
    refine XS.aloadN X68.here hx rfl (hb hby d_prog_13_method_6_78) rfl rfl ?_
    show own_S p e below T68 (mkF m 79 #[.val (.ref b54), .val (.ref w_SKIPPED)] [(.ref b54), (.int x59), (.ref b67), (.ref b67)]) _
    refine st69 _ ?_
    show own_S p e below T69 (mkF m 82 #[.val (.ref b54), .val (.ref w_SKIPPED)] [(.int x60), (.int x59), (.ref b67), (.ref b67)]) _
    refine XS.iconst X69.here hx rfl (hb hby d_prog_13_method_6_82) ?_
    show own_S p e below T69 (mkF m 83 #[.val (.ref b54), .val (.ref w_SKIPPED)] [(.int (1 : Int32)), (.int x60), (.int x59), (.ref b67), (.ref b67)]) _
    refine XS.iadd X69.here hx rfl (hb hby d_prog_13_method_6_83) rfl ?_
    show own_S p e below T69 (mkF m 84 #[.val (.ref b54), .val (.ref w_SKIPPED)] [(.int (x60 + (1 : Int32))), (.int x59), (.ref b67), (.ref b67)]) _
    refine XS.aloadN X69.here hx rfl (hb hby d_prog_13_method_6_84) rfl rfl ?_
    show own_S p e below T69 (mkF m 85 #[.val (.ref b54), .val (.ref w_SKIPPED)] [(.ref b54), (.int (x60 + (1 : Int32))), (.int x59), (.ref b67), (.ref b67)]) _
    refine st70 _ ?_
    show own_S p e below T70 (mkF m 88 #[.val (.ref b54), .val (.ref w_SKIPPED)] [(.int x61), (.int (x60 + (1 : Int32))), (.int x59), (.ref b67), (.ref b67)]) _
    refine st71 _ ?_
    show own_S p e below T71 (mkF m 91 #[.val (.ref b54), .val (.ref w_SKIPPED)] [(.ref b67)]) _
    refine XS.goto X71.here hx rfl (pc0 := 91) (pc' := 115) rfl (hb hby d_prog_13_method_6_91) (by decide) (by decide) ?_
    show own_S p e below T71 (mkF m 115 #[.val (.ref b54), .val (.ref w_SKIPPED)] [(.ref b67)]) _
    jvm_step X71.here [X71.here.top, hx, (hb hby d_prog_13_method_6_115), X71.method', hret, Value.isRef, FieldType.isReference]
    first | (intro acts; rw [hr _ acts rfl rfl rfl]) | rw [hr _ _ rfl rfl rfl]
    exact Steps.refl _
  · show Qrm62 Z w_SKIPPED w__SwitchMap_com_example_fill_realm_fillrealm_Outcome cl_w__SwitchMap_com_example_fill_realm_fillrealm_Outcome b54 x59 x60 x61 h0 _ T71.heap _
    exact ⟨b67, rfl, N71, K71, sz_b67, q71_E_b67, q71_F_b67_created, q71_F_b67_skipped, q71_F_b67_failed⟩
def Qrm0_1 (Z : State) (w_SKIPPED : Addr) (w__SwitchMap_com_example_fill_realm_fillrealm_Outcome : Addr) (cl_w__SwitchMap_com_example_fill_realm_fillrealm_Outcome : Cell) (p1 : Int32) (p2 : Int32) (p3 : Int32) (p4 : Int32) (h0 : Heap) (v : Option Value) (h : Heap) (L : List Loc) : Prop := v = some (.int 1) ∧ Fr Z.heap.size L
set_option maxRecDepth 65536 in
set_option maxHeartbeats 40000000 in
theorem rm0_1 (l : Launch) (Z : State) (a0 : Array Value) (hw : ∀ d ∈ tables_1, d.before a0 Z = true) (ws : List Jvm.Cond) (w_SKIPPED : Addr) (w__SwitchMap_com_example_fill_realm_fillrealm_Outcome : Addr) (cl_w__SwitchMap_com_example_fill_realm_fillrealm_Outcome : Cell) (p1 : Int32) (p2 : Int32) (p3 : Int32) (p4 : Int32) (h0 : Heap) (Z0 : Ext Z.heap h0) (S_w_SKIPPED : Sta Z Z.heap "com/example/fill_realm/fillrealm/Outcome" "SKIPPED" "Lcom/example/fill_realm/fillrealm/Outcome;" (.ref w_SKIPPED)) (S_w__SwitchMap_com_example_fill_realm_fillrealm_Outcome : Sta Z Z.heap "com/example/fill_realm/fillrealm/Summary$1" "$SwitchMap$com$example$fill_realm$fillrealm$Outcome" "[I" (.ref w__SwitchMap_com_example_fill_realm_fillrealm_Outcome)) (E_w_SKIPPED : Exa Z Z.heap w_SKIPPED "com/example/fill_realm/fillrealm/Outcome") (F_w_SKIPPED_ordinal : Fld Z Z.heap w_SKIPPED "java/lang/Enum" "ordinal" "I" (.int (1 : Int32))) (Ar_w__SwitchMap_com_example_fill_realm_fillrealm_Outcome : Arr Z Z.heap w__SwitchMap_com_example_fill_realm_fillrealm_Outcome cl_w__SwitchMap_com_example_fill_realm_fillrealm_Outcome .int) (hin_w__SwitchMap_com_example_fill_realm_fillrealm_Outcome_1 : ¬ ((1 : Int32) < 0 ∨ cl_w__SwitchMap_com_example_fill_realm_fillrealm_Outcome.slots.size ≤ ((1 : Int32)).toNatClampNeg)) (hat_w__SwitchMap_com_example_fill_realm_fillrealm_Outcome_1 : cl_w__SwitchMap_com_example_fill_realm_fillrealm_Outcome.slots[((1 : Int32)).toNatClampNeg]? = some (.int (2 : Int32))) (hc12 : ((p4 &&& (2147483647 : Int32)) % (3 : Int32)) = (1 : Int32)) (hc13 : ¬ ((p1 &&& (2147483647 : Int32)) < (0 : Int32))) (hc14 : ¬ (((p2 &&& (2147483647 : Int32)) % (2147483647 : Int32)) < (0 : Int32))) (hc7 : ¬ ((p3 &&& (2147483647 : Int32)) < (0 : Int32))) (hc18 : ¬ ((((p2 &&& (2147483647 : Int32)) % (2147483647 : Int32)) + (1 : Int32)) < (0 : Int32))) :
    own_met l x code maxLocals ret ws room_1 Z #[(.int p1), (.int p2), (.int p3), (.int p4)] h0 (Qrm0_1 Z w_SKIPPED w__SwitchMap_com_example_fill_realm_fillrealm_Outcome cl_w__SwitchMap_com_example_fill_realm_fillrealm_Outcome p1 p2 p3 p4 h0) := by
  refine own_start (plainFor_of_name pn_1) (fun m => ef_code_IIII m p1 p2 p3 p4) ?_
  intro p e s m below meth c s₁ hx hby hml hown hnm X0 hZ e0 hret hlk
  have N0 := Fr.nil Z.heap.size
  obtain ⟨T54, h54, X54, e54, E54, A54, D54, -, st54⟩ := newO X0 hx hZ hown (own_w hw 1 rfl) (own_w hw 2 rfl) (own_w hw 3 rfl) e0 (g := (mkF m 64 #[.val (.int p1), .val (.int p2), .val (.int p3), .val (.int p4), .val (.int (1 : Int32)), .val (.int (p1 &&& (2147483647 : Int32))), .val (.int ((p2 &&& (2147483647 : Int32)) % (2147483647 : Int32))), .val (.int (p3 &&& (2147483647 : Int32))), .unset, .unset, .unset, .unset, .unset, .unset, .unset] [])) rfl (hb hby at_64) (by decide) (by decide)
  obtain ⟨b54, g54⟩ : ∃ z, z = h0.size := ⟨_, rfl⟩
  rw [← g54] at A54 D54 st54
  have g_b54 : Z.heap.size ≤ b54 := Nat.le_trans Z0.1 (Nat.le_of_eq g54.symm)
  have sz_b54 : h0.size ≤ b54 := Nat.le_trans (Keep.refl h0 []).1 (Nat.le_of_eq g54.symm)
  have F_b54_created : Fld Z h54 b54 "com/example/fill_realm/fillrealm/Summary" "created" "I" (.int (0 : Int32)) := D54 (Or.inr (own_w hw 11 rfl)) (ty := .int) (by decide)
  have F_b54_skipped : Fld Z h54 b54 "com/example/fill_realm/fillrealm/Summary" "skipped" "I" (.int (0 : Int32)) := D54 (Or.inr (own_w hw 13 rfl)) (ty := .int) (by decide)
  have F_b54_failed : Fld Z h54 b54 "com/example/fill_realm/fillrealm/Summary" "failed" "I" (.int (0 : Int32)) := D54 (Or.inr (own_w hw 15 rfl)) (ty := .int) (by decide)
  have K54 : Keep h0 h54 [] := (Keep.refl h0 []).ext E54
  have XX54 : Ext Z.heap h54 := own_ext2 Z0 E54
  obtain ⟨_, T55, Lc55, X55, hQ55, st55⟩ := own_special (y := y_0) X54 hx hZ hown rfl (own_w hw 4 rfl) (own_w hw 5 rfl) (own_w hw 3 rfl) (own_w hw 6 rfl) (by decide) (rm5 l Z a0 hw [] b54 (p1 &&& (2147483647 : Int32)) ((p2 &&& (2147483647 : Int32)) % (2147483647 : Int32)) (p3 &&& (2147483647 : Int32)) h54 XX54 A54 F_b54_created F_b54_failed F_b54_skipped g_b54 hc13 hc14 hc7) (by decide) (by decide) e54 (g := (mkF m 74 #[.val (.int p1), .val (.int p2), .val (.int p3), .val (.int p4), .val (.int (1 : Int32)), .val (.int (p1 &&& (2147483647 : Int32))), .val (.int ((p2 &&& (2147483647 : Int32)) % (2147483647 : Int32))), .val (.int (p3 &&& (2147483647 : Int32))), .unset, .unset, .unset, .unset, .unset, .unset, .unset] [(.int (p3 &&& (2147483647 : Int32))), (.int ((p2 &&& (2147483647 : Int32)) % (2147483647 : Int32))), (.int (p1 &&& (2147483647 : Int32))), (.ref b54), (.ref b54)])) rfl (by rw [hml]; rfl) b54 (argsL := [(.int (p1 &&& (2147483647 : Int32))), (.int ((p2 &&& (2147483647 : Int32)) % (2147483647 : Int32))), (.int (p3 &&& (2147483647 : Int32)))]) (rest := [(.ref b54)]) (lenOf pd_0 rfl) rfl rfl (W := 1) (by show 2 * 0 + _ ≤ _; exact Nat.le_of_eq rfl) (hb hby at_74) (by decide) (by decide)
  obtain ⟨rfl, N55q, K55q, q55_E_b54, q55_F_b54_created, q55_F_b54_failed, q55_F_b54_skipped⟩ := hQ55
  have K55 : Keep h0 T55.heap [] := K54.trans K55q (allS (Or.inr sz_b54) all0)
  have XX55 : Ext Z.heap T55.heap := own_extK XX54 K55q (allS g_b54 all0)
  have N55 := Fr.app N0 N55q
  obtain ⟨_, T58, Lc58, X58, hQ58, st58⟩ := own_static (y := y_1) X55 hx hZ hown (own_w hw 16 rfl) (own_w hw 17 rfl) (own_w hw 18 rfl) (own_w hw 19 rfl) (by decide) (rm56 l Z a0 hw [] w_SKIPPED T55.heap XX55 S_w_SKIPPED) (by decide) (by decide) rfl (g := (mkF m 83 #[.val (.int p1), .val (.int p2), .val (.int p3), .val (.int p4), .val (.int (1 : Int32)), .val (.int (p1 &&& (2147483647 : Int32))), .val (.int ((p2 &&& (2147483647 : Int32)) % (2147483647 : Int32))), .val (.int (p3 &&& (2147483647 : Int32))), .val (.ref b54), .unset, .unset, .unset, .unset, .unset, .unset] [(.int (1 : Int32)), (.ref b54)])) rfl (by rw [hml]; rfl) (argsL := [(.int (1 : Int32))]) (rest := [(.ref b54)]) (lenOf pd_1 rfl) rfl rfl (W := 1) (by show 2 * 0 + _ ≤ _; exact Nat.le_of_eq rfl) (hb hby at_83) (by decide) (by decide)
  obtain ⟨rfl, N58q, e58⟩ := hQ58
  have N58 := Fr.app N55 N58q
  obtain ⟨_, T72, Lc72, X72, hQ72, st72⟩ := own_virtual (y := y_4) X58 hx hZ hown (own_w hw 23 rfl) (own_w hw 24 rfl) (own_w hw 26 rfl) (own_w hw 25 rfl) (own_w hw 3 rfl) (own_w hw 27 rfl) (by decide) (rm62 l Z a0 hw [] w_SKIPPED w__SwitchMap_com_example_fill_realm_fillrealm_Outcome cl_w__SwitchMap_com_example_fill_realm_fillrealm_Outcome b54 (p1 &&& (2147483647 : Int32)) ((p2 &&& (2147483647 : Int32)) % (2147483647 : Int32)) (p3 &&& (2147483647 : Int32)) T55.heap XX55 S_w__SwitchMap_com_example_fill_realm_fillrealm_Outcome E_w_SKIPPED F_w_SKIPPED_ordinal Ar_w__SwitchMap_com_example_fill_realm_fillrealm_Outcome hin_w__SwitchMap_com_example_fill_realm_fillrealm_Outcome_1 hat_w__SwitchMap_com_example_fill_realm_fillrealm_Outcome_1 q55_F_b54_created q55_F_b54_failed q55_F_b54_skipped hc13 hc18 hc7) (by decide) (by decide) e58 q55_E_b54 (g := (mkF m 86 #[.val (.int p1), .val (.int p2), .val (.int p3), .val (.int p4), .val (.int (1 : Int32)), .val (.int (p1 &&& (2147483647 : Int32))), .val (.int ((p2 &&& (2147483647 : Int32)) % (2147483647 : Int32))), .val (.int (p3 &&& (2147483647 : Int32))), .val (.ref b54), .unset, .unset, .unset, .unset, .unset, .unset] [(.ref w_SKIPPED), (.ref b54)])) rfl (by rw [hml]; rfl) (argsL := [(.ref w_SKIPPED)]) (rest := []) (lenOf pd_3 rfl) rfl rfl (W := 0) (by show 2 * 0 + _ ≤ _; exact Nat.le_of_eq rfl) (hb hby at_86) (by decide) (by decide)
  obtain ⟨b73, rfl, N72q, K72q, szn_b73, q72_E_b73, q72_F_b73_created, q72_F_b73_skipped, q72_F_b73_failed⟩ := hQ72
  have g_b73 : Z.heap.size ≤ b73 := Nat.le_trans XX55.1 szn_b73
  have sz_b73 : h0.size ≤ b73 := Nat.le_trans K55.1 szn_b73
  have K72 : Keep h0 T72.heap [] := K55.trans K72q all0
  have XX72 : Ext Z.heap T72.heap := own_extK XX55 K72q all0
  have N72 := Fr.app N58 N72q
  obtain ⟨_, T74, Lc74, X74, hQ74, st74⟩ := own_virtual (y := y_5) X72 hx hZ hown (own_w hw 42 rfl) (own_w hw 43 rfl) (own_w hw 45 rfl) (own_w hw 44 rfl) (own_w hw 3 rfl) (own_w hw 46 rfl) (by decide) (rm36 l Z a0 hw [] b73 (p1 &&& (2147483647 : Int32)) T72.heap XX72 q72_F_b73_created) (by decide) (by decide) rfl q72_E_b73 (g := (mkF m 140 #[.val (.int p1), .val (.int p2), .val (.int p3), .val (.int p4), .val (.int (1 : Int32)), .val (.int (p1 &&& (2147483647 : Int32))), .val (.int ((p2 &&& (2147483647 : Int32)) % (2147483647 : Int32))), .val (.int (p3 &&& (2147483647 : Int32))), .val (.ref b54), .val (.ref b73), .val (.int (p1 &&& (2147483647 : Int32))), .val (.int (((p2 &&& (2147483647 : Int32)) % (2147483647 : Int32)) + (1 : Int32))), .val (.int (p3 &&& (2147483647 : Int32))), .unset, .unset] [(.ref b73)])) rfl (by rw [hml]; rfl) (argsL := []) (rest := []) (lenOf pd_2 rfl) rfl rfl (W := 0) (by show 2 * 0 + _ ≤ _; exact Nat.le_of_eq rfl) (hb hby at_140) (by decide) (by decide)
  obtain ⟨rfl, N74q, e74⟩ := hQ74
  have N74 := Fr.app N72 N74q
  obtain ⟨_, T75, Lc75, X75, hQ75, st75⟩ := own_virtual (y := y_6) X74 hx hZ hown (own_w hw 47 rfl) (own_w hw 48 rfl) (own_w hw 50 rfl) (own_w hw 49 rfl) (own_w hw 3 rfl) (own_w hw 51 rfl) (by decide) (rm42 l Z a0 hw [] b73 (((p2 &&& (2147483647 : Int32)) % (2147483647 : Int32)) + (1 : Int32)) T72.heap XX72 q72_F_b73_skipped) (by decide) (by decide) e74 q72_E_b73 (g := (mkF m 150 #[.val (.int p1), .val (.int p2), .val (.int p3), .val (.int p4), .val (.int (1 : Int32)), .val (.int (p1 &&& (2147483647 : Int32))), .val (.int ((p2 &&& (2147483647 : Int32)) % (2147483647 : Int32))), .val (.int (p3 &&& (2147483647 : Int32))), .val (.ref b54), .val (.ref b73), .val (.int (p1 &&& (2147483647 : Int32))), .val (.int (((p2 &&& (2147483647 : Int32)) % (2147483647 : Int32)) + (1 : Int32))), .val (.int (p3 &&& (2147483647 : Int32))), .unset, .unset] [(.ref b73)])) rfl (by rw [hml]; rfl) (argsL := []) (rest := []) (lenOf pd_2 rfl) rfl rfl (W := 0) (by show 2 * 0 + _ ≤ _; exact Nat.le_of_eq rfl) (hb hby at_150) (by decide) (by decide)
  obtain ⟨rfl, N75q, e75⟩ := hQ75
  have N75 := Fr.app N74 N75q
  obtain ⟨_, T76, Lc76, X76, hQ76, st76⟩ := own_virtual (y := y_7) X75 hx hZ hown (own_w hw 52 rfl) (own_w hw 53 rfl) (own_w hw 55 rfl) (own_w hw 54 rfl) (own_w hw 3 rfl) (own_w hw 56 rfl) (by decide) (rm48 l Z a0 hw [] b73 (p3 &&& (2147483647 : Int32)) T72.heap XX72 q72_F_b73_failed) (by decide) (by decide) e75 q72_E_b73 (g := (mkF m 160 #[.val (.int p1), .val (.int p2), .val (.int p3), .val (.int p4), .val (.int (1 : Int32)), .val (.int (p1 &&& (2147483647 : Int32))), .val (.int ((p2 &&& (2147483647 : Int32)) % (2147483647 : Int32))), .val (.int (p3 &&& (2147483647 : Int32))), .val (.ref b54), .val (.ref b73), .val (.int (p1 &&& (2147483647 : Int32))), .val (.int (((p2 &&& (2147483647 : Int32)) % (2147483647 : Int32)) + (1 : Int32))), .val (.int (p3 &&& (2147483647 : Int32))), .unset, .unset] [(.ref b73)])) rfl (by rw [hml]; rfl) (argsL := []) (rest := []) (lenOf pd_2 rfl) rfl rfl (W := 0) (by show 2 * 0 + _ ≤ _; exact Nat.le_of_eq rfl) (hb hby at_160) (by decide) (by decide)
  obtain ⟨rfl, N76q, e76⟩ := hQ76
  have N76 := Fr.app N75 N76q
  obtain ⟨_, T77, Lc77, X77, hQ77, st77⟩ := own_virtual (y := y_5) X76 hx hZ hown (own_w hw 42 rfl) (own_w hw 43 rfl) (own_w hw 45 rfl) (own_w hw 44 rfl) (own_w hw 3 rfl) (own_w hw 46 rfl) (by decide) (rm36 l Z a0 hw [] b54 (p1 &&& (2147483647 : Int32)) T72.heap XX72 (q55_F_b54_created.keep K72q nin0)) (by decide) (by decide) e76 (q55_E_b54.keep K72q) (g := (mkF m 177 #[.val (.int p1), .val (.int p2), .val (.int p3), .val (.int p4), .val (.int (1 : Int32)), .val (.int (p1 &&& (2147483647 : Int32))), .val (.int ((p2 &&& (2147483647 : Int32)) % (2147483647 : Int32))), .val (.int (p3 &&& (2147483647 : Int32))), .val (.ref b54), .val (.ref b73), .val (.int (p1 &&& (2147483647 : Int32))), .val (.int (((p2 &&& (2147483647 : Int32)) % (2147483647 : Int32)) + (1 : Int32))), .val (.int (p3 &&& (2147483647 : Int32))), .val (.int (1 : Int32)), .unset] [(.ref b54)])) rfl (by rw [hml]; rfl) (argsL := []) (rest := []) (lenOf pd_2 rfl) rfl rfl (W := 0) (by show 2 * 0 + _ ≤ _; exact Nat.le_of_eq rfl) (hb hby at_177) (by decide) (by decide)
  obtain ⟨rfl, N77q, e77⟩ := hQ77
  have N77 := Fr.app N76 N77q
  obtain ⟨_, T78, Lc78, X78, hQ78, st78⟩ := own_virtual (y := y_6) X77 hx hZ hown (own_w hw 47 rfl) (own_w hw 48 rfl) (own_w hw 50 rfl) (own_w hw 49 rfl) (own_w hw 3 rfl) (own_w hw 51 rfl) (by decide) (rm42 l Z a0 hw [] b54 ((p2 &&& (2147483647 : Int32)) % (2147483647 : Int32)) T72.heap XX72 (q55_F_b54_skipped.keep K72q nin0)) (by decide) (by decide) e77 (q55_E_b54.keep K72q) (g := (mkF m 187 #[.val (.int p1), .val (.int p2), .val (.int p3), .val (.int p4), .val (.int (1 : Int32)), .val (.int (p1 &&& (2147483647 : Int32))), .val (.int ((p2 &&& (2147483647 : Int32)) % (2147483647 : Int32))), .val (.int (p3 &&& (2147483647 : Int32))), .val (.ref b54), .val (.ref b73), .val (.int (p1 &&& (2147483647 : Int32))), .val (.int (((p2 &&& (2147483647 : Int32)) % (2147483647 : Int32)) + (1 : Int32))), .val (.int (p3 &&& (2147483647 : Int32))), .val (.int (1 : Int32)), .unset] [(.ref b54)])) rfl (by rw [hml]; rfl) (argsL := []) (rest := []) (lenOf pd_2 rfl) rfl rfl (W := 0) (by show 2 * 0 + _ ≤ _; exact Nat.le_of_eq rfl) (hb hby at_187) (by decide) (by decide)
  obtain ⟨rfl, N78q, e78⟩ := hQ78
  have N78 := Fr.app N77 N78q
  obtain ⟨_, T79, Lc79, X79, hQ79, st79⟩ := own_virtual (y := y_7) X78 hx hZ hown (own_w hw 52 rfl) (own_w hw 53 rfl) (own_w hw 55 rfl) (own_w hw 54 rfl) (own_w hw 3 rfl) (own_w hw 56 rfl) (by decide) (rm48 l Z a0 hw [] b54 (p3 &&& (2147483647 : Int32)) T72.heap XX72 (q55_F_b54_failed.keep K72q nin0)) (by decide) (by decide) e78 (q55_E_b54.keep K72q) (g := (mkF m 197 #[.val (.int p1), .val (.int p2), .val (.int p3), .val (.int p4), .val (.int (1 : Int32)), .val (.int (p1 &&& (2147483647 : Int32))), .val (.int ((p2 &&& (2147483647 : Int32)) % (2147483647 : Int32))), .val (.int (p3 &&& (2147483647 : Int32))), .val (.ref b54), .val (.ref b73), .val (.int (p1 &&& (2147483647 : Int32))), .val (.int (((p2 &&& (2147483647 : Int32)) % (2147483647 : Int32)) + (1 : Int32))), .val (.int (p3 &&& (2147483647 : Int32))), .val (.int (1 : Int32)), .unset] [(.ref b54)])) rfl (by rw [hml]; rfl) (argsL := []) (rest := []) (lenOf pd_2 rfl) rfl rfl (W := 0) (by show 2 * 0 + _ ≤ _; exact Nat.le_of_eq rfl) (hb hby at_197) (by decide) (by decide)
  obtain ⟨rfl, N79q, e79⟩ := hQ79
  have N79 := Fr.app N78 N79q
  obtain ⟨fs, hr, hrun, hended, hW, hsame⟩ := X79.leave (v := some (.int (1 : Int32))) (fun h => by rw [hret] at h; cases h) hlk
  refine ⟨_, _, ?_, hrun, hended, _, _, rfl, ?_, ⟨_, rfl⟩, hW, hsame.mono (by decide) (by decide)⟩
  · show own_S p e below s₁ (mkF m 0 #[.val (.int p1), .val (.int p2), .val (.int p3), .val (.int p4), .unset, .unset, .unset, .unset, .unset, .unset, .unset, .unset, .unset, .unset, .unset] []) _
    refine XS.iloadN X0.here hx rfl (hb hby at_0) rfl ?_
    show own_S p e below s₁ (mkF m 1 #[.val (.int p1), .val (.int p2), .val (.int p3), .val (.int p4), .unset, .unset, .unset, .unset, .unset, .unset, .unset, .unset, .unset, .unset, .unset] [(.int p4)]) _
    refine X0.ldcInt hx hown (mvT hZ (own_w hw 0 rfl)) (g := (mkF m 1 #[.val (.int p1), .val (.int p2), .val (.int p3), .val (.int p4), .unset, .unset, .unset, .unset, .unset, .unset, .unset, .unset, .unset, .unset, .unset] [(.int p4)])) rfl (hb hby at_1) _ ?_
    show own_S p e below s₁ (mkF m 3 #[.val (.int p1), .val (.int p2), .val (.int p3), .val (.int p4), .unset, .unset, .unset, .unset, .unset, .unset, .unset, .unset, .unset, .unset, .unset] [(.int (2147483647 : Int32)), (.int p4)]) _
    refine XS.iand X0.here hx rfl (hb hby at_3) rfl ?_
    show own_S p e below s₁ (mkF m 4 #[.val (.int p1), .val (.int p2), .val (.int p3), .val (.int p4), .unset, .unset, .unset, .unset, .unset, .unset, .unset, .unset, .unset, .unset, .unset] [(.int (p4 &&& (2147483647 : Int32)))]) _
    refine XS.iconst X0.here hx rfl (hb hby at_4) ?_
    show own_S p e below s₁ (mkF m 5 #[.val (.int p1), .val (.int p2), .val (.int p3), .val (.int p4), .unset, .unset, .unset, .unset, .unset, .unset, .unset, .unset, .unset, .unset, .unset] [(.int (3 : Int32)), (.int (p4 &&& (2147483647 : Int32)))]) _
    refine iremM X0 hx rfl (hb hby at_5) rfl (by decide) ?_
    show own_S p e below s₁ (mkF m 6 #[.val (.int p1), .val (.int p2), .val (.int p3), .val (.int p4), .unset, .unset, .unset, .unset, .unset, .unset, .unset, .unset, .unset, .unset, .unset] [(.int ((p4 &&& (2147483647 : Int32)) % (3 : Int32)))]) _
    rw [hc12]
    show own_S p e below s₁ (mkF m 6 #[.val (.int p1), .val (.int p2), .val (.int p3), .val (.int p4), .unset, .unset, .unset, .unset, .unset, .unset, .unset, .unset, .unset, .unset, .unset] [(.int (1 : Int32))]) _
    refine XS.istore X0.here hx rfl (hb hby at_6) rfl (l' := #[.val (.int p1), .val (.int p2), .val (.int p3), .val (.int p4), .val (.int (1 : Int32)), .unset, .unset, .unset, .unset, .unset, .unset, .unset, .unset, .unset, .unset]) rfl ?_
    show own_S p e below s₁ (mkF m 8 #[.val (.int p1), .val (.int p2), .val (.int p3), .val (.int p4), .val (.int (1 : Int32)), .unset, .unset, .unset, .unset, .unset, .unset, .unset, .unset, .unset, .unset] []) _
    refine XS.iloadN X0.here hx rfl (hb hby at_8) rfl ?_
    show own_S p e below s₁ (mkF m 9 #[.val (.int p1), .val (.int p2), .val (.int p3), .val (.int p4), .val (.int (1 : Int32)), .unset, .unset, .unset, .unset, .unset, .unset, .unset, .unset, .unset, .unset] [(.int p1)]) _
    refine X0.ldcInt hx hown (mvT hZ (own_w hw 0 rfl)) (g := (mkF m 9 #[.val (.int p1), .val (.int p2), .val (.int p3), .val (.int p4), .val (.int (1 : Int32)), .unset, .unset, .unset, .unset, .unset, .unset, .unset, .unset, .unset, .unset] [(.int p1)])) rfl (hb hby at_9) _ ?_
    show own_S p e below s₁ (mkF m 11 #[.val (.int p1), .val (.int p2), .val (.int p3), .val (.int p4), .val (.int (1 : Int32)), .unset, .unset, .unset, .unset, .unset, .unset, .unset, .unset, .unset, .unset] [(.int (2147483647 : Int32)), (.int p1)]) _
    refine XS.iand X0.here hx rfl (hb hby at_11) rfl ?_
    show own_S p e below s₁ (mkF m 12 #[.val (.int p1), .val (.int p2), .val (.int p3), .val (.int p4), .val (.int (1 : Int32)), .unset, .unset, .unset, .unset, .unset, .unset, .unset, .unset, .unset, .unset] [(.int (p1 &&& (2147483647 : Int32)))]) _
    refine XS.istore X0.here hx rfl (hb hby at_12) rfl (l' := #[.val (.int p1), .val (.int p2), .val (.int p3), .val (.int p4), .val (.int (1 : Int32)), .val (.int (p1 &&& (2147483647 : Int32))), .unset, .unset, .unset, .unset, .unset, .unset, .unset, .unset, .unset]) rfl ?_
    show own_S p e below s₁ (mkF m 14 #[.val (.int p1), .val (.int p2), .val (.int p3), .val (.int p4), .val (.int (1 : Int32)), .val (.int (p1 &&& (2147483647 : Int32))), .unset, .unset, .unset, .unset, .unset, .unset, .unset, .unset, .unset] []) _
    refine XS.iloadN X0.here hx rfl (hb hby at_14) rfl ?_
    show own_S p e below s₁ (mkF m 15 #[.val (.int p1), .val (.int p2), .val (.int p3), .val (.int p4), .val (.int (1 : Int32)), .val (.int (p1 &&& (2147483647 : Int32))), .unset, .unset, .unset, .unset, .unset, .unset, .unset, .unset, .unset] [(.int p2)]) _
    refine X0.ldcInt hx hown (mvT hZ (own_w hw 0 rfl)) (g := (mkF m 15 #[.val (.int p1), .val (.int p2), .val (.int p3), .val (.int p4), .val (.int (1 : Int32)), .val (.int (p1 &&& (2147483647 : Int32))), .unset, .unset, .unset, .unset, .unset, .unset, .unset, .unset, .unset] [(.int p2)])) rfl (hb hby at_15) _ ?_
    show own_S p e below s₁ (mkF m 17 #[.val (.int p1), .val (.int p2), .val (.int p3), .val (.int p4), .val (.int (1 : Int32)), .val (.int (p1 &&& (2147483647 : Int32))), .unset, .unset, .unset, .unset, .unset, .unset, .unset, .unset, .unset] [(.int (2147483647 : Int32)), (.int p2)]) _
    refine XS.iand X0.here hx rfl (hb hby at_17) rfl ?_
    show own_S p e below s₁ (mkF m 18 #[.val (.int p1), .val (.int p2), .val (.int p3), .val (.int p4), .val (.int (1 : Int32)), .val (.int (p1 &&& (2147483647 : Int32))), .unset, .unset, .unset, .unset, .unset, .unset, .unset, .unset, .unset] [(.int (p2 &&& (2147483647 : Int32)))]) _
    refine XS.istore X0.here hx rfl (hb hby at_18) rfl (l' := #[.val (.int p1), .val (.int p2), .val (.int p3), .val (.int p4), .val (.int (1 : Int32)), .val (.int (p1 &&& (2147483647 : Int32))), .val (.int (p2 &&& (2147483647 : Int32))), .unset, .unset, .unset, .unset, .unset, .unset, .unset, .unset]) rfl ?_
    show own_S p e below s₁ (mkF m 20 #[.val (.int p1), .val (.int p2), .val (.int p3), .val (.int p4), .val (.int (1 : Int32)), .val (.int (p1 &&& (2147483647 : Int32))), .val (.int (p2 &&& (2147483647 : Int32))), .unset, .unset, .unset, .unset, .unset, .unset, .unset, .unset] []) _
    refine XS.iloadN X0.here hx rfl (hb hby at_20) rfl ?_
    show own_S p e below s₁ (mkF m 21 #[.val (.int p1), .val (.int p2), .val (.int p3), .val (.int p4), .val (.int (1 : Int32)), .val (.int (p1 &&& (2147483647 : Int32))), .val (.int (p2 &&& (2147483647 : Int32))), .unset, .unset, .unset, .unset, .unset, .unset, .unset, .unset] [(.int p3)]) _
    refine X0.ldcInt hx hown (mvT hZ (own_w hw 0 rfl)) (g := (mkF m 21 #[.val (.int p1), .val (.int p2), .val (.int p3), .val (.int p4), .val (.int (1 : Int32)), .val (.int (p1 &&& (2147483647 : Int32))), .val (.int (p2 &&& (2147483647 : Int32))), .unset, .unset, .unset, .unset, .unset, .unset, .unset, .unset] [(.int p3)])) rfl (hb hby at_21) _ ?_
    show own_S p e below s₁ (mkF m 23 #[.val (.int p1), .val (.int p2), .val (.int p3), .val (.int p4), .val (.int (1 : Int32)), .val (.int (p1 &&& (2147483647 : Int32))), .val (.int (p2 &&& (2147483647 : Int32))), .unset, .unset, .unset, .unset, .unset, .unset, .unset, .unset] [(.int (2147483647 : Int32)), (.int p3)]) _
    refine XS.iand X0.here hx rfl (hb hby at_23) rfl ?_
    show own_S p e below s₁ (mkF m 24 #[.val (.int p1), .val (.int p2), .val (.int p3), .val (.int p4), .val (.int (1 : Int32)), .val (.int (p1 &&& (2147483647 : Int32))), .val (.int (p2 &&& (2147483647 : Int32))), .unset, .unset, .unset, .unset, .unset, .unset, .unset, .unset] [(.int (p3 &&& (2147483647 : Int32)))]) _
    refine XS.istore X0.here hx rfl (hb hby at_24) rfl (l' := #[.val (.int p1), .val (.int p2), .val (.int p3), .val (.int p4), .val (.int (1 : Int32)), .val (.int (p1 &&& (2147483647 : Int32))), .val (.int (p2 &&& (2147483647 : Int32))), .val (.int (p3 &&& (2147483647 : Int32))), .unset, .unset, .unset, .unset, .unset, .unset, .unset]) rfl ?_
    show own_S p e below s₁ (mkF m 26 #[.val (.int p1), .val (.int p2), .val (.int p3), .val (.int p4), .val (.int (1 : Int32)), .val (.int (p1 &&& (2147483647 : Int32))), .val (.int (p2 &&& (2147483647 : Int32))), .val (.int (p3 &&& (2147483647 : Int32))), .unset, .unset, .unset, .unset, .unset, .unset, .unset] []) _
    refine XS.iload X0.here hx rfl (hb hby at_26) rfl ?_
    show own_S p e below s₁ (mkF m 28 #[.val (.int p1), .val (.int p2), .val (.int p3), .val (.int p4), .val (.int (1 : Int32)), .val (.int (p1 &&& (2147483647 : Int32))), .val (.int (p2 &&& (2147483647 : Int32))), .val (.int (p3 &&& (2147483647 : Int32))), .unset, .unset, .unset, .unset, .unset, .unset, .unset] [(.int (1 : Int32))]) _
    refine XS.ifYes X0.here hx rfl (pc0 := 28) (pc' := 38) rfl (hb hby at_28) rfl ((if0 _ _).trans (feq (by decide : ¬ ((1 : Int32) = (0 : Int32)))).2) (by decide) (by decide) ?_
    show own_S p e below s₁ (mkF m 38 #[.val (.int p1), .val (.int p2), .val (.int p3), .val (.int p4), .val (.int (1 : Int32)), .val (.int (p1 &&& (2147483647 : Int32))), .val (.int (p2 &&& (2147483647 : Int32))), .val (.int (p3 &&& (2147483647 : Int32))), .unset, .unset, .unset, .unset, .unset, .unset, .unset] []) _
    refine XS.iload X0.here hx rfl (hb hby at_38) rfl ?_
    show own_S p e below s₁ (mkF m 40 #[.val (.int p1), .val (.int p2), .val (.int p3), .val (.int p4), .val (.int (1 : Int32)), .val (.int (p1 &&& (2147483647 : Int32))), .val (.int (p2 &&& (2147483647 : Int32))), .val (.int (p3 &&& (2147483647 : Int32))), .unset, .unset, .unset, .unset, .unset, .unset, .unset] [(.int (1 : Int32))]) _
    refine XS.iconst X0.here hx rfl (hb hby at_40) ?_
    show own_S p e below s₁ (mkF m 41 #[.val (.int p1), .val (.int p2), .val (.int p3), .val (.int p4), .val (.int (1 : Int32)), .val (.int (p1 &&& (2147483647 : Int32))), .val (.int (p2 &&& (2147483647 : Int32))), .val (.int (p3 &&& (2147483647 : Int32))), .unset, .unset, .unset, .unset, .unset, .unset, .unset] [(.int (1 : Int32)), (.int (1 : Int32))]) _
    refine XS.icmpNo X0.here hx rfl (hb hby at_41) rfl (teq (rfl : (1 : Int32) = (1 : Int32))).2 ?_
    show own_S p e below s₁ (mkF m 44 #[.val (.int p1), .val (.int p2), .val (.int p3), .val (.int p4), .val (.int (1 : Int32)), .val (.int (p1 &&& (2147483647 : Int32))), .val (.int (p2 &&& (2147483647 : Int32))), .val (.int (p3 &&& (2147483647 : Int32))), .unset, .unset, .unset, .unset, .unset, .unset, .unset] []) _
    refine XS.iload X0.here hx rfl (hb hby at_44) rfl ?_
    show own_S p e below s₁ (mkF m 46 #[.val (.int p1), .val (.int p2), .val (.int p3), .val (.int p4), .val (.int (1 : Int32)), .val (.int (p1 &&& (2147483647 : Int32))), .val (.int (p2 &&& (2147483647 : Int32))), .val (.int (p3 &&& (2147483647 : Int32))), .unset, .unset, .unset, .unset, .unset, .unset, .unset] [(.int (p2 &&& (2147483647 : Int32)))]) _
    refine X0.ldcInt hx hown (mvT hZ (own_w hw 0 rfl)) (g := (mkF m 46 #[.val (.int p1), .val (.int p2), .val (.int p3), .val (.int p4), .val (.int (1 : Int32)), .val (.int (p1 &&& (2147483647 : Int32))), .val (.int (p2 &&& (2147483647 : Int32))), .val (.int (p3 &&& (2147483647 : Int32))), .unset, .unset, .unset, .unset, .unset, .unset, .unset] [(.int (p2 &&& (2147483647 : Int32)))])) rfl (hb hby at_46) _ ?_
    show own_S p e below s₁ (mkF m 48 #[.val (.int p1), .val (.int p2), .val (.int p3), .val (.int p4), .val (.int (1 : Int32)), .val (.int (p1 &&& (2147483647 : Int32))), .val (.int (p2 &&& (2147483647 : Int32))), .val (.int (p3 &&& (2147483647 : Int32))), .unset, .unset, .unset, .unset, .unset, .unset, .unset] [(.int (2147483647 : Int32)), (.int (p2 &&& (2147483647 : Int32)))]) _
    refine iremM X0 hx rfl (hb hby at_48) rfl (by decide) ?_
    show own_S p e below s₁ (mkF m 49 #[.val (.int p1), .val (.int p2), .val (.int p3), .val (.int p4), .val (.int (1 : Int32)), .val (.int (p1 &&& (2147483647 : Int32))), .val (.int (p2 &&& (2147483647 : Int32))), .val (.int (p3 &&& (2147483647 : Int32))), .unset, .unset, .unset, .unset, .unset, .unset, .unset] [(.int ((p2 &&& (2147483647 : Int32)) % (2147483647 : Int32)))]) _
    refine XS.istore X0.here hx rfl (hb hby at_49) rfl (l' := #[.val (.int p1), .val (.int p2), .val (.int p3), .val (.int p4), .val (.int (1 : Int32)), .val (.int (p1 &&& (2147483647 : Int32))), .val (.int ((p2 &&& (2147483647 : Int32)) % (2147483647 : Int32))), .val (.int (p3 &&& (2147483647 : Int32))), .unset, .unset, .unset, .unset, .unset, .unset, .unset]) rfl ?_
    show own_S p e below s₁ (mkF m 51 #[.val (.int p1), .val (.int p2), .val (.int p3), .val (.int p4), .val (.int (1 : Int32)), .val (.int (p1 &&& (2147483647 : Int32))), .val (.int ((p2 &&& (2147483647 : Int32)) % (2147483647 : Int32))), .val (.int (p3 &&& (2147483647 : Int32))), .unset, .unset, .unset, .unset, .unset, .unset, .unset] []) _
    refine XS.iload X0.here hx rfl (hb hby at_51) rfl ?_
    show own_S p e below s₁ (mkF m 53 #[.val (.int p1), .val (.int p2), .val (.int p3), .val (.int p4), .val (.int (1 : Int32)), .val (.int (p1 &&& (2147483647 : Int32))), .val (.int ((p2 &&& (2147483647 : Int32)) % (2147483647 : Int32))), .val (.int (p3 &&& (2147483647 : Int32))), .unset, .unset, .unset, .unset, .unset, .unset, .unset] [(.int (1 : Int32))]) _
    refine XS.iconst X0.here hx rfl (hb hby at_53) ?_
    show own_S p e below s₁ (mkF m 54 #[.val (.int p1), .val (.int p2), .val (.int p3), .val (.int p4), .val (.int (1 : Int32)), .val (.int (p1 &&& (2147483647 : Int32))), .val (.int ((p2 &&& (2147483647 : Int32)) % (2147483647 : Int32))), .val (.int (p3 &&& (2147483647 : Int32))), .unset, .unset, .unset, .unset, .unset, .unset, .unset] [(.int (2 : Int32)), (.int (1 : Int32))]) _
    refine XS.icmpYes X0.here hx rfl (pc0 := 54) (pc' := 64) rfl (hb hby at_54) rfl (feq (by decide : ¬ ((1 : Int32) = (2 : Int32)))).2 (by decide) (by decide) ?_
    show own_S p e below s₁ (mkF m 64 #[.val (.int p1), .val (.int p2), .val (.int p3), .val (.int p4), .val (.int (1 : Int32)), .val (.int (p1 &&& (2147483647 : Int32))), .val (.int ((p2 &&& (2147483647 : Int32)) % (2147483647 : Int32))), .val (.int (p3 &&& (2147483647 : Int32))), .unset, .unset, .unset, .unset, .unset, .unset, .unset] []) _
    refine st54 _ ?_
    show own_S p e below T54 (mkF m 67 #[.val (.int p1), .val (.int p2), .val (.int p3), .val (.int p4), .val (.int (1 : Int32)), .val (.int (p1 &&& (2147483647 : Int32))), .val (.int ((p2 &&& (2147483647 : Int32)) % (2147483647 : Int32))), .val (.int (p3 &&& (2147483647 : Int32))), .unset, .unset, .unset, .unset, .unset, .unset, .unset] [(.ref b54)]) _
    refine XS.dup X54.here hx rfl (hb hby at_67) rfl rfl ?_
    show own_S p e below T54 (mkF m 68 #[.val (.int p1), .val (.int p2), .val (.int p3), .val (.int p4), .val (.int (1 : Int32)), .val (.int (p1 &&& (2147483647 : Int32))), .val (.int ((p2 &&& (2147483647 : Int32)) % (2147483647 : Int32))), .val (.int (p3 &&& (2147483647 : Int32))), .unset, .unset, .unset, .unset, .unset, .unset, .unset] [(.ref b54), (.ref b54)]) _
    refine XS.iload X54.here hx rfl (hb hby at_68) rfl ?_
    show own_S p e below T54 (mkF m 70 #[.val (.int p1), .val (.int p2), .val (.int p3), .val (.int p4), .val (.int (1 : Int32)), .val (.int (p1 &&& (2147483647 : Int32))), .val (.int ((p2 &&& (2147483647 : Int32)) % (2147483647 : Int32))), .val (.int (p3 &&& (2147483647 : Int32))), .unset, .unset, .unset, .unset, .unset, .unset, .unset] [(.int (p1 &&& (2147483647 : Int32))), (.ref b54), (.ref b54)]) _
    refine XS.iload X54.here hx rfl (hb hby at_70) rfl ?_
    show own_S p e below T54 (mkF m 72 #[.val (.int p1), .val (.int p2), .val (.int p3), .val (.int p4), .val (.int (1 : Int32)), .val (.int (p1 &&& (2147483647 : Int32))), .val (.int ((p2 &&& (2147483647 : Int32)) % (2147483647 : Int32))), .val (.int (p3 &&& (2147483647 : Int32))), .unset, .unset, .unset, .unset, .unset, .unset, .unset] [(.int ((p2 &&& (2147483647 : Int32)) % (2147483647 : Int32))), (.int (p1 &&& (2147483647 : Int32))), (.ref b54), (.ref b54)]) _
    refine XS.iload X54.here hx rfl (hb hby at_72) rfl ?_
    show own_S p e below T54 (mkF m 74 #[.val (.int p1), .val (.int p2), .val (.int p3), .val (.int p4), .val (.int (1 : Int32)), .val (.int (p1 &&& (2147483647 : Int32))), .val (.int ((p2 &&& (2147483647 : Int32)) % (2147483647 : Int32))), .val (.int (p3 &&& (2147483647 : Int32))), .unset, .unset, .unset, .unset, .unset, .unset, .unset] [(.int (p3 &&& (2147483647 : Int32))), (.int ((p2 &&& (2147483647 : Int32)) % (2147483647 : Int32))), (.int (p1 &&& (2147483647 : Int32))), (.ref b54), (.ref b54)]) _
    refine st55 _ ?_
    show own_S p e below T55 (mkF m 77 #[.val (.int p1), .val (.int p2), .val (.int p3), .val (.int p4), .val (.int (1 : Int32)), .val (.int (p1 &&& (2147483647 : Int32))), .val (.int ((p2 &&& (2147483647 : Int32)) % (2147483647 : Int32))), .val (.int (p3 &&& (2147483647 : Int32))), .unset, .unset, .unset, .unset, .unset, .unset, .unset] [(.ref b54)]) _
    refine XS.astore X55.here hx rfl (hb hby at_77) rfl rfl (l' := #[.val (.int p1), .val (.int p2), .val (.int p3), .val (.int p4), .val (.int (1 : Int32)), .val (.int (p1 &&& (2147483647 : Int32))), .val (.int ((p2 &&& (2147483647 : Int32)) % (2147483647 : Int32))), .val (.int (p3 &&& (2147483647 : Int32))), .val (.ref b54), .unset, .unset, .unset, .unset, .unset, .unset]) rfl ?_
    show own_S p e below T55 (mkF m 79 #[.val (.int p1), .val (.int p2), .val (.int p3), .val (.int p4), .val (.int (1 : Int32)), .val (.int (p1 &&& (2147483647 : Int32))), .val (.int ((p2 &&& (2147483647 : Int32)) % (2147483647 : Int32))), .val (.int (p3 &&& (2147483647 : Int32))), .val (.ref b54), .unset, .unset, .unset, .unset, .unset, .unset] []) _
    refine XS.aload X55.here hx rfl (hb hby at_79) rfl rfl ?_
    show own_S p e below T55 (mkF m 81 #[.val (.int p1), .val (.int p2), .val (.int p3), .val (.int p4), .val (.int (1 : Int32)), .val (.int (p1 &&& (2147483647 : Int32))), .val (.int ((p2 &&& (2147483647 : Int32)) % (2147483647 : Int32))), .val (.int (p3 &&& (2147483647 : Int32))), .val (.ref b54), .unset, .unset, .unset, .unset, .unset, .unset] [(.ref b54)]) _
    refine XS.iload X55.here hx rfl (hb hby at_81) rfl ?_
    show own_S p e below T55 (mkF m 83 #[.val (.int p1), .val (.int p2), .val (.int p3), .val (.int p4), .val (.int (1 : Int32)), .val (.int (p1 &&& (2147483647 : Int32))), .val (.int ((p2 &&& (2147483647 : Int32)) % (2147483647 : Int32))), .val (.int (p3 &&& (2147483647 : Int32))), .val (.ref b54), .unset, .unset, .unset, .unset, .unset, .unset] [(.int (1 : Int32)), (.ref b54)]) _
    refine st58 _ ?_
    show own_S p e below T58 (mkF m 86 #[.val (.int p1), .val (.int p2), .val (.int p3), .val (.int p4), .val (.int (1 : Int32)), .val (.int (p1 &&& (2147483647 : Int32))), .val (.int ((p2 &&& (2147483647 : Int32)) % (2147483647 : Int32))), .val (.int (p3 &&& (2147483647 : Int32))), .val (.ref b54), .unset, .unset, .unset, .unset, .unset, .unset] [(.ref w_SKIPPED), (.ref b54)]) _
    refine st72 _ ?_
    show own_S p e below T72 (mkF m 89 #[.val (.int p1), .val (.int p2), .val (.int p3), .val (.int p4), .val (.int (1 : Int32)), .val (.int (p1 &&& (2147483647 : Int32))), .val (.int ((p2 &&& (2147483647 : Int32)) % (2147483647 : Int32))), .val (.int (p3 &&& (2147483647 : Int32))), .val (.ref b54), .unset, .unset, .unset, .unset, .unset, .unset] [(.ref b73)]) _
    refine XS.astore X72.here hx rfl (hb hby at_89) rfl rfl (l' := #[.val (.int p1), .val (.int p2), .val (.int p3), .val (.int p4), .val (.int (1 : Int32)), .val (.int (p1 &&& (2147483647 : Int32))), .val (.int ((p2 &&& (2147483647 : Int32)) % (2147483647 : Int32))), .val (.int (p3 &&& (2147483647 : Int32))), .val (.ref b54), .val (.ref b73), .unset, .unset, .unset, .unset, .unset]) rfl ?_
    show own_S p e below T72 (mkF m 91 #[.val (.int p1), .val (.int p2), .val (.int p3), .val (.int p4), .val (.int (1 : Int32)), .val (.int (p1 &&& (2147483647 : Int32))), .val (.int ((p2 &&& (2147483647 : Int32)) % (2147483647 : Int32))), .val (.int (p3 &&& (2147483647 : Int32))), .val (.ref b54), .val (.ref b73), .unset, .unset, .unset, .unset, .unset] []) _
    refine XS.iload X72.here hx rfl (hb hby at_91) rfl ?_
    show own_S p e below T72 (mkF m 93 #[.val (.int p1), .val (.int p2), .val (.int p3), .val (.int p4), .val (.int (1 : Int32)), .val (.int (p1 &&& (2147483647 : Int32))), .val (.int ((p2 &&& (2147483647 : Int32)) % (2147483647 : Int32))), .val (.int (p3 &&& (2147483647 : Int32))), .val (.ref b54), .val (.ref b73), .unset, .unset, .unset, .unset, .unset] [(.int (p1 &&& (2147483647 : Int32)))]) _
    refine XS.istore X72.here hx rfl (hb hby at_93) rfl (l' := #[.val (.int p1), .val (.int p2), .val (.int p3), .val (.int p4), .val (.int (1 : Int32)), .val (.int (p1 &&& (2147483647 : Int32))), .val (.int ((p2 &&& (2147483647 : Int32)) % (2147483647 : Int32))), .val (.int (p3 &&& (2147483647 : Int32))), .val (.ref b54), .val (.ref b73), .val (.int (p1 &&& (2147483647 : Int32))), .unset, .unset, .unset, .unset]) rfl ?_
    show own_S p e below T72 (mkF m 95 #[.val (.int p1), .val (.int p2), .val (.int p3), .val (.int p4), .val (.int (1 : Int32)), .val (.int (p1 &&& (2147483647 : Int32))), .val (.int ((p2 &&& (2147483647 : Int32)) % (2147483647 : Int32))), .val (.int (p3 &&& (2147483647 : Int32))), .val (.ref b54), .val (.ref b73), .val (.int (p1 &&& (2147483647 : Int32))), .unset, .unset, .unset, .unset] []) _
    refine XS.iload X72.here hx rfl (hb hby at_95) rfl ?_
    show own_S p e below T72 (mkF m 97 #[.val (.int p1), .val (.int p2), .val (.int p3), .val (.int p4), .val (.int (1 : Int32)), .val (.int (p1 &&& (2147483647 : Int32))), .val (.int ((p2 &&& (2147483647 : Int32)) % (2147483647 : Int32))), .val (.int (p3 &&& (2147483647 : Int32))), .val (.ref b54), .val (.ref b73), .val (.int (p1 &&& (2147483647 : Int32))), .unset, .unset, .unset, .unset] [(.int ((p2 &&& (2147483647 : Int32)) % (2147483647 : Int32)))]) _
    refine XS.istore X72.here hx rfl (hb hby at_97) rfl (l' := #[.val (.int p1), .val (.int p2), .val (.int p3), .val (.int p4), .val (.int (1 : Int32)), .val (.int (p1 &&& (2147483647 : Int32))), .val (.int ((p2 &&& (2147483647 : Int32)) % (2147483647 : Int32))), .val (.int (p3 &&& (2147483647 : Int32))), .val (.ref b54), .val (.ref b73), .val (.int (p1 &&& (2147483647 : Int32))), .val (.int ((p2 &&& (2147483647 : Int32)) % (2147483647 : Int32))), .unset, .unset, .unset]) rfl ?_
    show own_S p e below T72 (mkF m 99 #[.val (.int p1), .val (.int p2), .val (.int p3), .val (.int p4), .val (.int (1 : Int32)), .val (.int (p1 &&& (2147483647 : Int32))), .val (.int ((p2 &&& (2147483647 : Int32)) % (2147483647 : Int32))), .val (.int (p3 &&& (2147483647 : Int32))), .val (.ref b54), .val (.ref b73), .val (.int (p1 &&& (2147483647 : Int32))), .val (.int ((p2 &&& (2147483647 : Int32)) % (2147483647 : Int32))), .unset, .unset, .unset] []) _
    refine XS.iload X72.here hx rfl (hb hby at_99) rfl ?_
    show own_S p e below T72 (mkF m 101 #[.val (.int p1), .val (.int p2), .val (.int p3), .val (.int p4), .val (.int (1 : Int32)), .val (.int (p1 &&& (2147483647 : Int32))), .val (.int ((p2 &&& (2147483647 : Int32)) % (2147483647 : Int32))), .val (.int (p3 &&& (2147483647 : Int32))), .val (.ref b54), .val (.ref b73), .val (.int (p1 &&& (2147483647 : Int32))), .val (.int ((p2 &&& (2147483647 : Int32)) % (2147483647 : Int32))), .unset, .unset, .unset] [(.int (p3 &&& (2147483647 : Int32)))]) _
    refine XS.istore X72.here hx rfl (hb hby at_101) rfl (l' := #[.val (.int p1), .val (.int p2), .val (.int p3), .val (.int p4), .val (.int (1 : Int32)), .val (.int (p1 &&& (2147483647 : Int32))), .val (.int ((p2 &&& (2147483647 : Int32)) % (2147483647 : Int32))), .val (.int (p3 &&& (2147483647 : Int32))), .val (.ref b54), .val (.ref b73), .val (.int (p1 &&& (2147483647 : Int32))), .val (.int ((p2 &&& (2147483647 : Int32)) % (2147483647 : Int32))), .val (.int (p3 &&& (2147483647 : Int32))), .unset, .unset]) rfl ?_
    show own_S p e below T72 (mkF m 103 #[.val (.int p1), .val (.int p2), .val (.int p3), .val (.int p4), .val (.int (1 : Int32)), .val (.int (p1 &&& (2147483647 : Int32))), .val (.int ((p2 &&& (2147483647 : Int32)) % (2147483647 : Int32))), .val (.int (p3 &&& (2147483647 : Int32))), .val (.ref b54), .val (.ref b73), .val (.int (p1 &&& (2147483647 : Int32))), .val (.int ((p2 &&& (2147483647 : Int32)) % (2147483647 : Int32))), .val (.int (p3 &&& (2147483647 : Int32))), .unset, .unset] []) _
    refine XS.iload X72.here hx rfl (hb hby at_103) rfl ?_
    show own_S p e below T72 (mkF m 105 #[.val (.int p1), .val (.int p2), .val (.int p3), .val (.int p4), .val (.int (1 : Int32)), .val (.int (p1 &&& (2147483647 : Int32))), .val (.int ((p2 &&& (2147483647 : Int32)) % (2147483647 : Int32))), .val (.int (p3 &&& (2147483647 : Int32))), .val (.ref b54), .val (.ref b73), .val (.int (p1 &&& (2147483647 : Int32))), .val (.int ((p2 &&& (2147483647 : Int32)) % (2147483647 : Int32))), .val (.int (p3 &&& (2147483647 : Int32))), .unset, .unset] [(.int (1 : Int32))]) _
    refine XS.ifYes X72.here hx rfl (pc0 := 105) (pc' := 114) rfl (hb hby at_105) rfl ((if0 _ _).trans (feq (by decide : ¬ ((1 : Int32) = (0 : Int32)))).2) (by decide) (by decide) ?_
    show own_S p e below T72 (mkF m 114 #[.val (.int p1), .val (.int p2), .val (.int p3), .val (.int p4), .val (.int (1 : Int32)), .val (.int (p1 &&& (2147483647 : Int32))), .val (.int ((p2 &&& (2147483647 : Int32)) % (2147483647 : Int32))), .val (.int (p3 &&& (2147483647 : Int32))), .val (.ref b54), .val (.ref b73), .val (.int (p1 &&& (2147483647 : Int32))), .val (.int ((p2 &&& (2147483647 : Int32)) % (2147483647 : Int32))), .val (.int (p3 &&& (2147483647 : Int32))), .unset, .unset] []) _
    refine XS.iload X72.here hx rfl (hb hby at_114) rfl ?_
    show own_S p e below T72 (mkF m 116 #[.val (.int p1), .val (.int p2), .val (.int p3), .val (.int p4), .val (.int (1 : Int32)), .val (.int (p1 &&& (2147483647 : Int32))), .val (.int ((p2 &&& (2147483647 : Int32)) % (2147483647 : Int32))), .val (.int (p3 &&& (2147483647 : Int32))), .val (.ref b54), .val (.ref b73), .val (.int (p1 &&& (2147483647 : Int32))), .val (.int ((p2 &&& (2147483647 : Int32)) % (2147483647 : Int32))), .val (.int (p3 &&& (2147483647 : Int32))), .unset, .unset] [(.int (1 : Int32))]) _
    refine XS.iconst X72.here hx rfl (hb hby at_116) ?_
    show own_S p e below T72 (mkF m 117 #[.val (.int p1), .val (.int p2), .val (.int p3), .val (.int p4), .val (.int (1 : Int32)), .val (.int (p1 &&& (2147483647 : Int32))), .val (.int ((p2 &&& (2147483647 : Int32)) % (2147483647 : Int32))), .val (.int (p3 &&& (2147483647 : Int32))), .val (.ref b54), .val (.ref b73), .val (.int (p1 &&& (2147483647 : Int32))), .val (.int ((p2 &&& (2147483647 : Int32)) % (2147483647 : Int32))), .val (.int (p3 &&& (2147483647 : Int32))), .unset, .unset] [(.int (1 : Int32)), (.int (1 : Int32))]) _
    refine XS.icmpNo X72.here hx rfl (hb hby at_117) rfl (teq (rfl : (1 : Int32) = (1 : Int32))).2 ?_
    show own_S p e below T72 (mkF m 120 #[.val (.int p1), .val (.int p2), .val (.int p3), .val (.int p4), .val (.int (1 : Int32)), .val (.int (p1 &&& (2147483647 : Int32))), .val (.int ((p2 &&& (2147483647 : Int32)) % (2147483647 : Int32))), .val (.int (p3 &&& (2147483647 : Int32))), .val (.ref b54), .val (.ref b73), .val (.int (p1 &&& (2147483647 : Int32))), .val (.int ((p2 &&& (2147483647 : Int32)) % (2147483647 : Int32))), .val (.int (p3 &&& (2147483647 : Int32))), .unset, .unset] []) _
    refine XS.iload X72.here hx rfl (hb hby at_120) rfl ?_
    show own_S p e below T72 (mkF m 122 #[.val (.int p1), .val (.int p2), .val (.int p3), .val (.int p4), .val (.int (1 : Int32)), .val (.int (p1 &&& (2147483647 : Int32))), .val (.int ((p2 &&& (2147483647 : Int32)) % (2147483647 : Int32))), .val (.int (p3 &&& (2147483647 : Int32))), .val (.ref b54), .val (.ref b73), .val (.int (p1 &&& (2147483647 : Int32))), .val (.int ((p2 &&& (2147483647 : Int32)) % (2147483647 : Int32))), .val (.int (p3 &&& (2147483647 : Int32))), .unset, .unset] [(.int ((p2 &&& (2147483647 : Int32)) % (2147483647 : Int32)))]) _
    refine XS.iconst X72.here hx rfl (hb hby at_122) ?_
    show own_S p e below T72 (mkF m 123 #[.val (.int p1), .val (.int p2), .val (.int p3), .val (.int p4), .val (.int (1 : Int32)), .val (.int (p1 &&& (2147483647 : Int32))), .val (.int ((p2 &&& (2147483647 : Int32)) % (2147483647 : Int32))), .val (.int (p3 &&& (2147483647 : Int32))), .val (.ref b54), .val (.ref b73), .val (.int (p1 &&& (2147483647 : Int32))), .val (.int ((p2 &&& (2147483647 : Int32)) % (2147483647 : Int32))), .val (.int (p3 &&& (2147483647 : Int32))), .unset, .unset] [(.int (1 : Int32)), (.int ((p2 &&& (2147483647 : Int32)) % (2147483647 : Int32)))]) _
    refine XS.iadd X72.here hx rfl (hb hby at_123) rfl ?_
    show own_S p e below T72 (mkF m 124 #[.val (.int p1), .val (.int p2), .val (.int p3), .val (.int p4), .val (.int (1 : Int32)), .val (.int (p1 &&& (2147483647 : Int32))), .val (.int ((p2 &&& (2147483647 : Int32)) % (2147483647 : Int32))), .val (.int (p3 &&& (2147483647 : Int32))), .val (.ref b54), .val (.ref b73), .val (.int (p1 &&& (2147483647 : Int32))), .val (.int ((p2 &&& (2147483647 : Int32)) % (2147483647 : Int32))), .val (.int (p3 &&& (2147483647 : Int32))), .unset, .unset] [(.int (((p2 &&& (2147483647 : Int32)) % (2147483647 : Int32)) + (1 : Int32)))]) _
    refine XS.istore X72.here hx rfl (hb hby at_124) rfl (l' := #[.val (.int p1), .val (.int p2), .val (.int p3), .val (.int p4), .val (.int (1 : Int32)), .val (.int (p1 &&& (2147483647 : Int32))), .val (.int ((p2 &&& (2147483647 : Int32)) % (2147483647 : Int32))), .val (.int (p3 &&& (2147483647 : Int32))), .val (.ref b54), .val (.ref b73), .val (.int (p1 &&& (2147483647 : Int32))), .val (.int (((p2 &&& (2147483647 : Int32)) % (2147483647 : Int32)) + (1 : Int32))), .val (.int (p3 &&& (2147483647 : Int32))), .unset, .unset]) rfl ?_
    show own_S p e below T72 (mkF m 126 #[.val (.int p1), .val (.int p2), .val (.int p3), .val (.int p4), .val (.int (1 : Int32)), .val (.int (p1 &&& (2147483647 : Int32))), .val (.int ((p2 &&& (2147483647 : Int32)) % (2147483647 : Int32))), .val (.int (p3 &&& (2147483647 : Int32))), .val (.ref b54), .val (.ref b73), .val (.int (p1 &&& (2147483647 : Int32))), .val (.int (((p2 &&& (2147483647 : Int32)) % (2147483647 : Int32)) + (1 : Int32))), .val (.int (p3 &&& (2147483647 : Int32))), .unset, .unset] []) _
    refine XS.iload X72.here hx rfl (hb hby at_126) rfl ?_
    show own_S p e below T72 (mkF m 128 #[.val (.int p1), .val (.int p2), .val (.int p3), .val (.int p4), .val (.int (1 : Int32)), .val (.int (p1 &&& (2147483647 : Int32))), .val (.int ((p2 &&& (2147483647 : Int32)) % (2147483647 : Int32))), .val (.int (p3 &&& (2147483647 : Int32))), .val (.ref b54), .val (.ref b73), .val (.int (p1 &&& (2147483647 : Int32))), .val (.int (((p2 &&& (2147483647 : Int32)) % (2147483647 : Int32)) + (1 : Int32))), .val (.int (p3 &&& (2147483647 : Int32))), .unset, .unset] [(.int (1 : Int32))]) _
    refine XS.iconst X72.here hx rfl (hb hby at_128) ?_
    show own_S p e below T72 (mkF m 129 #[.val (.int p1), .val (.int p2), .val (.int p3), .val (.int p4), .val (.int (1 : Int32)), .val (.int (p1 &&& (2147483647 : Int32))), .val (.int ((p2 &&& (2147483647 : Int32)) % (2147483647 : Int32))), .val (.int (p3 &&& (2147483647 : Int32))), .val (.ref b54), .val (.ref b73), .val (.int (p1 &&& (2147483647 : Int32))), .val (.int (((p2 &&& (2147483647 : Int32)) % (2147483647 : Int32)) + (1 : Int32))), .val (.int (p3 &&& (2147483647 : Int32))), .unset, .unset] [(.int (2 : Int32)), (.int (1 : Int32))]) _
    refine XS.icmpYes X72.here hx rfl (pc0 := 129) (pc' := 138) rfl (hb hby at_129) rfl (feq (by decide : ¬ ((1 : Int32) = (2 : Int32)))).2 (by decide) (by decide) ?_
    show own_S p e below T72 (mkF m 138 #[.val (.int p1), .val (.int p2), .val (.int p3), .val (.int p4), .val (.int (1 : Int32)), .val (.int (p1 &&& (2147483647 : Int32))), .val (.int ((p2 &&& (2147483647 : Int32)) % (2147483647 : Int32))), .val (.int (p3 &&& (2147483647 : Int32))), .val (.ref b54), .val (.ref b73), .val (.int (p1 &&& (2147483647 : Int32))), .val (.int (((p2 &&& (2147483647 : Int32)) % (2147483647 : Int32)) + (1 : Int32))), .val (.int (p3 &&& (2147483647 : Int32))), .unset, .unset] []) _
    refine XS.aload X72.here hx rfl (hb hby at_138) rfl rfl ?_
    show own_S p e below T72 (mkF m 140 #[.val (.int p1), .val (.int p2), .val (.int p3), .val (.int p4), .val (.int (1 : Int32)), .val (.int (p1 &&& (2147483647 : Int32))), .val (.int ((p2 &&& (2147483647 : Int32)) % (2147483647 : Int32))), .val (.int (p3 &&& (2147483647 : Int32))), .val (.ref b54), .val (.ref b73), .val (.int (p1 &&& (2147483647 : Int32))), .val (.int (((p2 &&& (2147483647 : Int32)) % (2147483647 : Int32)) + (1 : Int32))), .val (.int (p3 &&& (2147483647 : Int32))), .unset, .unset] [(.ref b73)]) _
    refine st74 _ ?_
    show own_S p e below T74 (mkF m 143 #[.val (.int p1), .val (.int p2), .val (.int p3), .val (.int p4), .val (.int (1 : Int32)), .val (.int (p1 &&& (2147483647 : Int32))), .val (.int ((p2 &&& (2147483647 : Int32)) % (2147483647 : Int32))), .val (.int (p3 &&& (2147483647 : Int32))), .val (.ref b54), .val (.ref b73), .val (.int (p1 &&& (2147483647 : Int32))), .val (.int (((p2 &&& (2147483647 : Int32)) % (2147483647 : Int32)) + (1 : Int32))), .val (.int (p3 &&& (2147483647 : Int32))), .unset, .unset] [(.int (p1 &&& (2147483647 : Int32)))]) _
    refine XS.iload X74.here hx rfl (hb hby at_143) rfl ?_
    show own_S p e below T74 (mkF m 145 #[.val (.int p1), .val (.int p2), .val (.int p3), .val (.int p4), .val (.int (1 : Int32)), .val (.int (p1 &&& (2147483647 : Int32))), .val (.int ((p2 &&& (2147483647 : Int32)) % (2147483647 : Int32))), .val (.int (p3 &&& (2147483647 : Int32))), .val (.ref b54), .val (.ref b73), .val (.int (p1 &&& (2147483647 : Int32))), .val (.int (((p2 &&& (2147483647 : Int32)) % (2147483647 : Int32)) + (1 : Int32))), .val (.int (p3 &&& (2147483647 : Int32))), .unset, .unset] [(.int (p1 &&& (2147483647 : Int32))), (.int (p1 &&& (2147483647 : Int32)))]) _
    refine XS.icmpNo X74.here hx rfl (hb hby at_145) rfl (teq (rfl : (p1 &&& (2147483647 : Int32)) = (p1 &&& (2147483647 : Int32)))).2 ?_
    show own_S p e below T74 (mkF m 148 #[.val (.int p1), .val (.int p2), .val (.int p3), .val (.int p4), .val (.int (1 : Int32)), .val (.int (p1 &&& (2147483647 : Int32))), .val (.int ((p2 &&& (2147483647 : Int32)) % (2147483647 : Int32))), .val (.int (p3 &&& (2147483647 : Int32))), .val (.ref b54), .val (.ref b73), .val (.int (p1 &&& (2147483647 : Int32))), .val (.int (((p2 &&& (2147483647 : Int32)) % (2147483647 : Int32)) + (1 : Int32))), .val (.int (p3 &&& (2147483647 : Int32))), .unset, .unset] []) _
    refine XS.aload X74.here hx rfl (hb hby at_148) rfl rfl ?_
    show own_S p e below T74 (mkF m 150 #[.val (.int p1), .val (.int p2), .val (.int p3), .val (.int p4), .val (.int (1 : Int32)), .val (.int (p1 &&& (2147483647 : Int32))), .val (.int ((p2 &&& (2147483647 : Int32)) % (2147483647 : Int32))), .val (.int (p3 &&& (2147483647 : Int32))), .val (.ref b54), .val (.ref b73), .val (.int (p1 &&& (2147483647 : Int32))), .val (.int (((p2 &&& (2147483647 : Int32)) % (2147483647 : Int32)) + (1 : Int32))), .val (.int (p3 &&& (2147483647 : Int32))), .unset, .unset] [(.ref b73)]) _
    refine st75 _ ?_
    show own_S p e below T75 (mkF m 153 #[.val (.int p1), .val (.int p2), .val (.int p3), .val (.int p4), .val (.int (1 : Int32)), .val (.int (p1 &&& (2147483647 : Int32))), .val (.int ((p2 &&& (2147483647 : Int32)) % (2147483647 : Int32))), .val (.int (p3 &&& (2147483647 : Int32))), .val (.ref b54), .val (.ref b73), .val (.int (p1 &&& (2147483647 : Int32))), .val (.int (((p2 &&& (2147483647 : Int32)) % (2147483647 : Int32)) + (1 : Int32))), .val (.int (p3 &&& (2147483647 : Int32))), .unset, .unset] [(.int (((p2 &&& (2147483647 : Int32)) % (2147483647 : Int32)) + (1 : Int32)))]) _
    refine XS.iload X75.here hx rfl (hb hby at_153) rfl ?_
    show own_S p e below T75 (mkF m 155 #[.val (.int p1), .val (.int p2), .val (.int p3), .val (.int p4), .val (.int (1 : Int32)), .val (.int (p1 &&& (2147483647 : Int32))), .val (.int ((p2 &&& (2147483647 : Int32)) % (2147483647 : Int32))), .val (.int (p3 &&& (2147483647 : Int32))), .val (.ref b54), .val (.ref b73), .val (.int (p1 &&& (2147483647 : Int32))), .val (.int (((p2 &&& (2147483647 : Int32)) % (2147483647 : Int32)) + (1 : Int32))), .val (.int (p3 &&& (2147483647 : Int32))), .unset, .unset] [(.int (((p2 &&& (2147483647 : Int32)) % (2147483647 : Int32)) + (1 : Int32))), (.int (((p2 &&& (2147483647 : Int32)) % (2147483647 : Int32)) + (1 : Int32)))]) _
    refine XS.icmpNo X75.here hx rfl (hb hby at_155) rfl (teq (rfl : (((p2 &&& (2147483647 : Int32)) % (2147483647 : Int32)) + (1 : Int32)) = (((p2 &&& (2147483647 : Int32)) % (2147483647 : Int32)) + (1 : Int32)))).2 ?_
    show own_S p e below T75 (mkF m 158 #[.val (.int p1), .val (.int p2), .val (.int p3), .val (.int p4), .val (.int (1 : Int32)), .val (.int (p1 &&& (2147483647 : Int32))), .val (.int ((p2 &&& (2147483647 : Int32)) % (2147483647 : Int32))), .val (.int (p3 &&& (2147483647 : Int32))), .val (.ref b54), .val (.ref b73), .val (.int (p1 &&& (2147483647 : Int32))), .val (.int (((p2 &&& (2147483647 : Int32)) % (2147483647 : Int32)) + (1 : Int32))), .val (.int (p3 &&& (2147483647 : Int32))), .unset, .unset] []) _
    refine XS.aload X75.here hx rfl (hb hby at_158) rfl rfl ?_
    show own_S p e below T75 (mkF m 160 #[.val (.int p1), .val (.int p2), .val (.int p3), .val (.int p4), .val (.int (1 : Int32)), .val (.int (p1 &&& (2147483647 : Int32))), .val (.int ((p2 &&& (2147483647 : Int32)) % (2147483647 : Int32))), .val (.int (p3 &&& (2147483647 : Int32))), .val (.ref b54), .val (.ref b73), .val (.int (p1 &&& (2147483647 : Int32))), .val (.int (((p2 &&& (2147483647 : Int32)) % (2147483647 : Int32)) + (1 : Int32))), .val (.int (p3 &&& (2147483647 : Int32))), .unset, .unset] [(.ref b73)]) _
    refine st76 _ ?_
    show own_S p e below T76 (mkF m 163 #[.val (.int p1), .val (.int p2), .val (.int p3), .val (.int p4), .val (.int (1 : Int32)), .val (.int (p1 &&& (2147483647 : Int32))), .val (.int ((p2 &&& (2147483647 : Int32)) % (2147483647 : Int32))), .val (.int (p3 &&& (2147483647 : Int32))), .val (.ref b54), .val (.ref b73), .val (.int (p1 &&& (2147483647 : Int32))), .val (.int (((p2 &&& (2147483647 : Int32)) % (2147483647 : Int32)) + (1 : Int32))), .val (.int (p3 &&& (2147483647 : Int32))), .unset, .unset] [(.int (p3 &&& (2147483647 : Int32)))]) _
    refine XS.iload X76.here hx rfl (hb hby at_163) rfl ?_
    show own_S p e below T76 (mkF m 165 #[.val (.int p1), .val (.int p2), .val (.int p3), .val (.int p4), .val (.int (1 : Int32)), .val (.int (p1 &&& (2147483647 : Int32))), .val (.int ((p2 &&& (2147483647 : Int32)) % (2147483647 : Int32))), .val (.int (p3 &&& (2147483647 : Int32))), .val (.ref b54), .val (.ref b73), .val (.int (p1 &&& (2147483647 : Int32))), .val (.int (((p2 &&& (2147483647 : Int32)) % (2147483647 : Int32)) + (1 : Int32))), .val (.int (p3 &&& (2147483647 : Int32))), .unset, .unset] [(.int (p3 &&& (2147483647 : Int32))), (.int (p3 &&& (2147483647 : Int32)))]) _
    refine XS.icmpNo X76.here hx rfl (hb hby at_165) rfl (teq (rfl : (p3 &&& (2147483647 : Int32)) = (p3 &&& (2147483647 : Int32)))).2 ?_
    show own_S p e below T76 (mkF m 168 #[.val (.int p1), .val (.int p2), .val (.int p3), .val (.int p4), .val (.int (1 : Int32)), .val (.int (p1 &&& (2147483647 : Int32))), .val (.int ((p2 &&& (2147483647 : Int32)) % (2147483647 : Int32))), .val (.int (p3 &&& (2147483647 : Int32))), .val (.ref b54), .val (.ref b73), .val (.int (p1 &&& (2147483647 : Int32))), .val (.int (((p2 &&& (2147483647 : Int32)) % (2147483647 : Int32)) + (1 : Int32))), .val (.int (p3 &&& (2147483647 : Int32))), .unset, .unset] []) _
    refine XS.iconst X76.here hx rfl (hb hby at_168) ?_
    show own_S p e below T76 (mkF m 169 #[.val (.int p1), .val (.int p2), .val (.int p3), .val (.int p4), .val (.int (1 : Int32)), .val (.int (p1 &&& (2147483647 : Int32))), .val (.int ((p2 &&& (2147483647 : Int32)) % (2147483647 : Int32))), .val (.int (p3 &&& (2147483647 : Int32))), .val (.ref b54), .val (.ref b73), .val (.int (p1 &&& (2147483647 : Int32))), .val (.int (((p2 &&& (2147483647 : Int32)) % (2147483647 : Int32)) + (1 : Int32))), .val (.int (p3 &&& (2147483647 : Int32))), .unset, .unset] [(.int (1 : Int32))]) _
    refine XS.goto X76.here hx rfl (pc0 := 169) (pc' := 173) rfl (hb hby at_169) (by decide) (by decide) ?_
    show own_S p e below T76 (mkF m 173 #[.val (.int p1), .val (.int p2), .val (.int p3), .val (.int p4), .val (.int (1 : Int32)), .val (.int (p1 &&& (2147483647 : Int32))), .val (.int ((p2 &&& (2147483647 : Int32)) % (2147483647 : Int32))), .val (.int (p3 &&& (2147483647 : Int32))), .val (.ref b54), .val (.ref b73), .val (.int (p1 &&& (2147483647 : Int32))), .val (.int (((p2 &&& (2147483647 : Int32)) % (2147483647 : Int32)) + (1 : Int32))), .val (.int (p3 &&& (2147483647 : Int32))), .unset, .unset] [(.int (1 : Int32))]) _
    refine XS.istore X76.here hx rfl (hb hby at_173) rfl (l' := #[.val (.int p1), .val (.int p2), .val (.int p3), .val (.int p4), .val (.int (1 : Int32)), .val (.int (p1 &&& (2147483647 : Int32))), .val (.int ((p2 &&& (2147483647 : Int32)) % (2147483647 : Int32))), .val (.int (p3 &&& (2147483647 : Int32))), .val (.ref b54), .val (.ref b73), .val (.int (p1 &&& (2147483647 : Int32))), .val (.int (((p2 &&& (2147483647 : Int32)) % (2147483647 : Int32)) + (1 : Int32))), .val (.int (p3 &&& (2147483647 : Int32))), .val (.int (1 : Int32)), .unset]) rfl ?_
    show own_S p e below T76 (mkF m 175 #[.val (.int p1), .val (.int p2), .val (.int p3), .val (.int p4), .val (.int (1 : Int32)), .val (.int (p1 &&& (2147483647 : Int32))), .val (.int ((p2 &&& (2147483647 : Int32)) % (2147483647 : Int32))), .val (.int (p3 &&& (2147483647 : Int32))), .val (.ref b54), .val (.ref b73), .val (.int (p1 &&& (2147483647 : Int32))), .val (.int (((p2 &&& (2147483647 : Int32)) % (2147483647 : Int32)) + (1 : Int32))), .val (.int (p3 &&& (2147483647 : Int32))), .val (.int (1 : Int32)), .unset] []) _
    refine XS.aload X76.here hx rfl (hb hby at_175) rfl rfl ?_
    show own_S p e below T76 (mkF m 177 #[.val (.int p1), .val (.int p2), .val (.int p3), .val (.int p4), .val (.int (1 : Int32)), .val (.int (p1 &&& (2147483647 : Int32))), .val (.int ((p2 &&& (2147483647 : Int32)) % (2147483647 : Int32))), .val (.int (p3 &&& (2147483647 : Int32))), .val (.ref b54), .val (.ref b73), .val (.int (p1 &&& (2147483647 : Int32))), .val (.int (((p2 &&& (2147483647 : Int32)) % (2147483647 : Int32)) + (1 : Int32))), .val (.int (p3 &&& (2147483647 : Int32))), .val (.int (1 : Int32)), .unset] [(.ref b54)]) _
    refine st77 _ ?_
    show own_S p e below T77 (mkF m 180 #[.val (.int p1), .val (.int p2), .val (.int p3), .val (.int p4), .val (.int (1 : Int32)), .val (.int (p1 &&& (2147483647 : Int32))), .val (.int ((p2 &&& (2147483647 : Int32)) % (2147483647 : Int32))), .val (.int (p3 &&& (2147483647 : Int32))), .val (.ref b54), .val (.ref b73), .val (.int (p1 &&& (2147483647 : Int32))), .val (.int (((p2 &&& (2147483647 : Int32)) % (2147483647 : Int32)) + (1 : Int32))), .val (.int (p3 &&& (2147483647 : Int32))), .val (.int (1 : Int32)), .unset] [(.int (p1 &&& (2147483647 : Int32)))]) _
    refine XS.iload X77.here hx rfl (hb hby at_180) rfl ?_
    show own_S p e below T77 (mkF m 182 #[.val (.int p1), .val (.int p2), .val (.int p3), .val (.int p4), .val (.int (1 : Int32)), .val (.int (p1 &&& (2147483647 : Int32))), .val (.int ((p2 &&& (2147483647 : Int32)) % (2147483647 : Int32))), .val (.int (p3 &&& (2147483647 : Int32))), .val (.ref b54), .val (.ref b73), .val (.int (p1 &&& (2147483647 : Int32))), .val (.int (((p2 &&& (2147483647 : Int32)) % (2147483647 : Int32)) + (1 : Int32))), .val (.int (p3 &&& (2147483647 : Int32))), .val (.int (1 : Int32)), .unset] [(.int (p1 &&& (2147483647 : Int32))), (.int (p1 &&& (2147483647 : Int32)))]) _
    refine XS.icmpNo X77.here hx rfl (hb hby at_182) rfl (teq (rfl : (p1 &&& (2147483647 : Int32)) = (p1 &&& (2147483647 : Int32)))).2 ?_
    show own_S p e below T77 (mkF m 185 #[.val (.int p1), .val (.int p2), .val (.int p3), .val (.int p4), .val (.int (1 : Int32)), .val (.int (p1 &&& (2147483647 : Int32))), .val (.int ((p2 &&& (2147483647 : Int32)) % (2147483647 : Int32))), .val (.int (p3 &&& (2147483647 : Int32))), .val (.ref b54), .val (.ref b73), .val (.int (p1 &&& (2147483647 : Int32))), .val (.int (((p2 &&& (2147483647 : Int32)) % (2147483647 : Int32)) + (1 : Int32))), .val (.int (p3 &&& (2147483647 : Int32))), .val (.int (1 : Int32)), .unset] []) _
    refine XS.aload X77.here hx rfl (hb hby at_185) rfl rfl ?_
    show own_S p e below T77 (mkF m 187 #[.val (.int p1), .val (.int p2), .val (.int p3), .val (.int p4), .val (.int (1 : Int32)), .val (.int (p1 &&& (2147483647 : Int32))), .val (.int ((p2 &&& (2147483647 : Int32)) % (2147483647 : Int32))), .val (.int (p3 &&& (2147483647 : Int32))), .val (.ref b54), .val (.ref b73), .val (.int (p1 &&& (2147483647 : Int32))), .val (.int (((p2 &&& (2147483647 : Int32)) % (2147483647 : Int32)) + (1 : Int32))), .val (.int (p3 &&& (2147483647 : Int32))), .val (.int (1 : Int32)), .unset] [(.ref b54)]) _
    refine st78 _ ?_
    show own_S p e below T78 (mkF m 190 #[.val (.int p1), .val (.int p2), .val (.int p3), .val (.int p4), .val (.int (1 : Int32)), .val (.int (p1 &&& (2147483647 : Int32))), .val (.int ((p2 &&& (2147483647 : Int32)) % (2147483647 : Int32))), .val (.int (p3 &&& (2147483647 : Int32))), .val (.ref b54), .val (.ref b73), .val (.int (p1 &&& (2147483647 : Int32))), .val (.int (((p2 &&& (2147483647 : Int32)) % (2147483647 : Int32)) + (1 : Int32))), .val (.int (p3 &&& (2147483647 : Int32))), .val (.int (1 : Int32)), .unset] [(.int ((p2 &&& (2147483647 : Int32)) % (2147483647 : Int32)))]) _
    refine XS.iload X78.here hx rfl (hb hby at_190) rfl ?_
    show own_S p e below T78 (mkF m 192 #[.val (.int p1), .val (.int p2), .val (.int p3), .val (.int p4), .val (.int (1 : Int32)), .val (.int (p1 &&& (2147483647 : Int32))), .val (.int ((p2 &&& (2147483647 : Int32)) % (2147483647 : Int32))), .val (.int (p3 &&& (2147483647 : Int32))), .val (.ref b54), .val (.ref b73), .val (.int (p1 &&& (2147483647 : Int32))), .val (.int (((p2 &&& (2147483647 : Int32)) % (2147483647 : Int32)) + (1 : Int32))), .val (.int (p3 &&& (2147483647 : Int32))), .val (.int (1 : Int32)), .unset] [(.int ((p2 &&& (2147483647 : Int32)) % (2147483647 : Int32))), (.int ((p2 &&& (2147483647 : Int32)) % (2147483647 : Int32)))]) _
    refine XS.icmpNo X78.here hx rfl (hb hby at_192) rfl (teq (rfl : ((p2 &&& (2147483647 : Int32)) % (2147483647 : Int32)) = ((p2 &&& (2147483647 : Int32)) % (2147483647 : Int32)))).2 ?_
    show own_S p e below T78 (mkF m 195 #[.val (.int p1), .val (.int p2), .val (.int p3), .val (.int p4), .val (.int (1 : Int32)), .val (.int (p1 &&& (2147483647 : Int32))), .val (.int ((p2 &&& (2147483647 : Int32)) % (2147483647 : Int32))), .val (.int (p3 &&& (2147483647 : Int32))), .val (.ref b54), .val (.ref b73), .val (.int (p1 &&& (2147483647 : Int32))), .val (.int (((p2 &&& (2147483647 : Int32)) % (2147483647 : Int32)) + (1 : Int32))), .val (.int (p3 &&& (2147483647 : Int32))), .val (.int (1 : Int32)), .unset] []) _
    refine XS.aload X78.here hx rfl (hb hby at_195) rfl rfl ?_
    show own_S p e below T78 (mkF m 197 #[.val (.int p1), .val (.int p2), .val (.int p3), .val (.int p4), .val (.int (1 : Int32)), .val (.int (p1 &&& (2147483647 : Int32))), .val (.int ((p2 &&& (2147483647 : Int32)) % (2147483647 : Int32))), .val (.int (p3 &&& (2147483647 : Int32))), .val (.ref b54), .val (.ref b73), .val (.int (p1 &&& (2147483647 : Int32))), .val (.int (((p2 &&& (2147483647 : Int32)) % (2147483647 : Int32)) + (1 : Int32))), .val (.int (p3 &&& (2147483647 : Int32))), .val (.int (1 : Int32)), .unset] [(.ref b54)]) _
    refine st79 _ ?_
    show own_S p e below T79 (mkF m 200 #[.val (.int p1), .val (.int p2), .val (.int p3), .val (.int p4), .val (.int (1 : Int32)), .val (.int (p1 &&& (2147483647 : Int32))), .val (.int ((p2 &&& (2147483647 : Int32)) % (2147483647 : Int32))), .val (.int (p3 &&& (2147483647 : Int32))), .val (.ref b54), .val (.ref b73), .val (.int (p1 &&& (2147483647 : Int32))), .val (.int (((p2 &&& (2147483647 : Int32)) % (2147483647 : Int32)) + (1 : Int32))), .val (.int (p3 &&& (2147483647 : Int32))), .val (.int (1 : Int32)), .unset] [(.int (p3 &&& (2147483647 : Int32)))]) _
    refine XS.iload X79.here hx rfl (hb hby at_200) rfl ?_
    show own_S p e below T79 (mkF m 202 #[.val (.int p1), .val (.int p2), .val (.int p3), .val (.int p4), .val (.int (1 : Int32)), .val (.int (p1 &&& (2147483647 : Int32))), .val (.int ((p2 &&& (2147483647 : Int32)) % (2147483647 : Int32))), .val (.int (p3 &&& (2147483647 : Int32))), .val (.ref b54), .val (.ref b73), .val (.int (p1 &&& (2147483647 : Int32))), .val (.int (((p2 &&& (2147483647 : Int32)) % (2147483647 : Int32)) + (1 : Int32))), .val (.int (p3 &&& (2147483647 : Int32))), .val (.int (1 : Int32)), .unset] [(.int (p3 &&& (2147483647 : Int32))), (.int (p3 &&& (2147483647 : Int32)))]) _
    refine XS.icmpNo X79.here hx rfl (hb hby at_202) rfl (teq (rfl : (p3 &&& (2147483647 : Int32)) = (p3 &&& (2147483647 : Int32)))).2 ?_
    show own_S p e below T79 (mkF m 205 #[.val (.int p1), .val (.int p2), .val (.int p3), .val (.int p4), .val (.int (1 : Int32)), .val (.int (p1 &&& (2147483647 : Int32))), .val (.int ((p2 &&& (2147483647 : Int32)) % (2147483647 : Int32))), .val (.int (p3 &&& (2147483647 : Int32))), .val (.ref b54), .val (.ref b73), .val (.int (p1 &&& (2147483647 : Int32))), .val (.int (((p2 &&& (2147483647 : Int32)) % (2147483647 : Int32)) + (1 : Int32))), .val (.int (p3 &&& (2147483647 : Int32))), .val (.int (1 : Int32)), .unset] []) _
    refine XS.iconst X79.here hx rfl (hb hby at_205) ?_
    show own_S p e below T79 (mkF m 206 #[.val (.int p1), .val (.int p2), .val (.int p3), .val (.int p4), .val (.int (1 : Int32)), .val (.int (p1 &&& (2147483647 : Int32))), .val (.int ((p2 &&& (2147483647 : Int32)) % (2147483647 : Int32))), .val (.int (p3 &&& (2147483647 : Int32))), .val (.ref b54), .val (.ref b73), .val (.int (p1 &&& (2147483647 : Int32))), .val (.int (((p2 &&& (2147483647 : Int32)) % (2147483647 : Int32)) + (1 : Int32))), .val (.int (p3 &&& (2147483647 : Int32))), .val (.int (1 : Int32)), .unset] [(.int (1 : Int32))]) _
    refine XS.goto X79.here hx rfl (pc0 := 206) (pc' := 210) rfl (hb hby at_206) (by decide) (by decide) ?_
    show own_S p e below T79 (mkF m 210 #[.val (.int p1), .val (.int p2), .val (.int p3), .val (.int p4), .val (.int (1 : Int32)), .val (.int (p1 &&& (2147483647 : Int32))), .val (.int ((p2 &&& (2147483647 : Int32)) % (2147483647 : Int32))), .val (.int (p3 &&& (2147483647 : Int32))), .val (.ref b54), .val (.ref b73), .val (.int (p1 &&& (2147483647 : Int32))), .val (.int (((p2 &&& (2147483647 : Int32)) % (2147483647 : Int32)) + (1 : Int32))), .val (.int (p3 &&& (2147483647 : Int32))), .val (.int (1 : Int32)), .unset] [(.int (1 : Int32))]) _
    refine XS.istore X79.here hx rfl (hb hby at_210) rfl (l' := #[.val (.int p1), .val (.int p2), .val (.int p3), .val (.int p4), .val (.int (1 : Int32)), .val (.int (p1 &&& (2147483647 : Int32))), .val (.int ((p2 &&& (2147483647 : Int32)) % (2147483647 : Int32))), .val (.int (p3 &&& (2147483647 : Int32))), .val (.ref b54), .val (.ref b73), .val (.int (p1 &&& (2147483647 : Int32))), .val (.int (((p2 &&& (2147483647 : Int32)) % (2147483647 : Int32)) + (1 : Int32))), .val (.int (p3 &&& (2147483647 : Int32))), .val (.int (1 : Int32)), .val (.int (1 : Int32))]) rfl ?_
    show own_S p e below T79 (mkF m 212 #[.val (.int p1), .val (.int p2), .val (.int p3), .val (.int p4), .val (.int (1 : Int32)), .val (.int (p1 &&& (2147483647 : Int32))), .val (.int ((p2 &&& (2147483647 : Int32)) % (2147483647 : Int32))), .val (.int (p3 &&& (2147483647 : Int32))), .val (.ref b54), .val (.ref b73), .val (.int (p1 &&& (2147483647 : Int32))), .val (.int (((p2 &&& (2147483647 : Int32)) % (2147483647 : Int32)) + (1 : Int32))), .val (.int (p3 &&& (2147483647 : Int32))), .val (.int (1 : Int32)), .val (.int (1 : Int32))] []) _
    refine XS.iload X79.here hx rfl (hb hby at_212) rfl ?_
    show own_S p e below T79 (mkF m 214 #[.val (.int p1), .val (.int p2), .val (.int p3), .val (.int p4), .val (.int (1 : Int32)), .val (.int (p1 &&& (2147483647 : Int32))), .val (.int ((p2 &&& (2147483647 : Int32)) % (2147483647 : Int32))), .val (.int (p3 &&& (2147483647 : Int32))), .val (.ref b54), .val (.ref b73), .val (.int (p1 &&& (2147483647 : Int32))), .val (.int (((p2 &&& (2147483647 : Int32)) % (2147483647 : Int32)) + (1 : Int32))), .val (.int (p3 &&& (2147483647 : Int32))), .val (.int (1 : Int32)), .val (.int (1 : Int32))] [(.int (1 : Int32))]) _
    refine XS.ifNo X79.here hx rfl (hb hby at_214) rfl ((if0 _ _).trans (feq (by decide : ¬ ((1 : Int32) = (0 : Int32)))).1) ?_
    show own_S p e below T79 (mkF m 217 #[.val (.int p1), .val (.int p2), .val (.int p3), .val (.int p4), .val (.int (1 : Int32)), .val (.int (p1 &&& (2147483647 : Int32))), .val (.int ((p2 &&& (2147483647 : Int32)) % (2147483647 : Int32))), .val (.int (p3 &&& (2147483647 : Int32))), .val (.ref b54), .val (.ref b73), .val (.int (p1 &&& (2147483647 : Int32))), .val (.int (((p2 &&& (2147483647 : Int32)) % (2147483647 : Int32)) + (1 : Int32))), .val (.int (p3 &&& (2147483647 : Int32))), .val (.int (1 : Int32)), .val (.int (1 : Int32))] []) _
    refine XS.iload X79.here hx rfl (hb hby at_217) rfl ?_
    show own_S p e below T79 (mkF m 219 #[.val (.int p1), .val (.int p2), .val (.int p3), .val (.int p4), .val (.int (1 : Int32)), .val (.int (p1 &&& (2147483647 : Int32))), .val (.int ((p2 &&& (2147483647 : Int32)) % (2147483647 : Int32))), .val (.int (p3 &&& (2147483647 : Int32))), .val (.ref b54), .val (.ref b73), .val (.int (p1 &&& (2147483647 : Int32))), .val (.int (((p2 &&& (2147483647 : Int32)) % (2147483647 : Int32)) + (1 : Int32))), .val (.int (p3 &&& (2147483647 : Int32))), .val (.int (1 : Int32)), .val (.int (1 : Int32))] [(.int (1 : Int32))]) _
    refine XS.ifNo X79.here hx rfl (hb hby at_219) rfl ((if0 _ _).trans (feq (by decide : ¬ ((1 : Int32) = (0 : Int32)))).1) ?_
    show own_S p e below T79 (mkF m 222 #[.val (.int p1), .val (.int p2), .val (.int p3), .val (.int p4), .val (.int (1 : Int32)), .val (.int (p1 &&& (2147483647 : Int32))), .val (.int ((p2 &&& (2147483647 : Int32)) % (2147483647 : Int32))), .val (.int (p3 &&& (2147483647 : Int32))), .val (.ref b54), .val (.ref b73), .val (.int (p1 &&& (2147483647 : Int32))), .val (.int (((p2 &&& (2147483647 : Int32)) % (2147483647 : Int32)) + (1 : Int32))), .val (.int (p3 &&& (2147483647 : Int32))), .val (.int (1 : Int32)), .val (.int (1 : Int32))] []) _
    refine XS.iconst X79.here hx rfl (hb hby at_222) ?_
    show own_S p e below T79 (mkF m 223 #[.val (.int p1), .val (.int p2), .val (.int p3), .val (.int p4), .val (.int (1 : Int32)), .val (.int (p1 &&& (2147483647 : Int32))), .val (.int ((p2 &&& (2147483647 : Int32)) % (2147483647 : Int32))), .val (.int (p3 &&& (2147483647 : Int32))), .val (.ref b54), .val (.ref b73), .val (.int (p1 &&& (2147483647 : Int32))), .val (.int (((p2 &&& (2147483647 : Int32)) % (2147483647 : Int32)) + (1 : Int32))), .val (.int (p3 &&& (2147483647 : Int32))), .val (.int (1 : Int32)), .val (.int (1 : Int32))] [(.int (1 : Int32))]) _
    refine XS.goto X79.here hx rfl (pc0 := 223) (pc' := 227) rfl (hb hby at_223) (by decide) (by decide) ?_
    show own_S p e below T79 (mkF m 227 #[.val (.int p1), .val (.int p2), .val (.int p3), .val (.int p4), .val (.int (1 : Int32)), .val (.int (p1 &&& (2147483647 : Int32))), .val (.int ((p2 &&& (2147483647 : Int32)) % (2147483647 : Int32))), .val (.int (p3 &&& (2147483647 : Int32))), .val (.ref b54), .val (.ref b73), .val (.int (p1 &&& (2147483647 : Int32))), .val (.int (((p2 &&& (2147483647 : Int32)) % (2147483647 : Int32)) + (1 : Int32))), .val (.int (p3 &&& (2147483647 : Int32))), .val (.int (1 : Int32)), .val (.int (1 : Int32))] [(.int (1 : Int32))]) _
    exact retN X79 hx (t := .boolean) hret (by simp) (hb hby at_227) hr
  · show Qrm0_1 Z w_SKIPPED w__SwitchMap_com_example_fill_realm_fillrealm_Outcome cl_w__SwitchMap_com_example_fill_realm_fillrealm_Outcome p1 p2 p3 p4 h0 _ T79.heap _
    exact ⟨rfl, N79⟩
def Qrm82 (Z : State) (w_FAILED : Addr) (h0 : Heap) (v : Option Value) (h : Heap) (L : List Loc) : Prop := v = some (.ref w_FAILED) ∧ Fr Z.heap.size L ∧ h = h0
set_option maxRecDepth 65536 in
set_option maxHeartbeats 40000000 in
theorem rm82 (l : Launch) (Z : State) (a0 : Array Value) (hw : ∀ d ∈ tables_1, d.before a0 Z = true) (ws : List Jvm.Cond) (w_FAILED : Addr) (h0 : Heap) (Z0 : Ext Z.heap h0) (S_w_FAILED : Sta Z Z.heap "com/example/fill_realm/fillrealm/Outcome" "FAILED" "Lcom/example/fill_realm/fillrealm/Outcome;" (.ref w_FAILED)) :
    own_met l y_1 method_2_code 1 (some (.object "com/example/fill_realm/fillrealm/Outcome")) ws ({ frames := 0, cells := 0, slots := 0, locals := 0 } : Room) Z #[(.int (2 : Int32))] h0 (Qrm82 Z w_FAILED h0) := by
  refine own_start (plainFor_of_name pn_1) (fun m => ef_method_2_I m (2 : Int32)) ?_
  intro p e s m below meth c s₁ hx hby hml hown hnm X0 hZ e0 hret hlk
  have N0 := Fr.nil Z.heap.size
  obtain ⟨T83, X83, e83, st83⟩ := getS2 X0 hx hZ hown (host := "") (Or.inl (own_w hw 57 rfl)) Via.refl e0 (S_w_FAILED.ext Z0) (g := (mkF m 17 #[.val (.int (2 : Int32))] [])) rfl (hb hby d_method_2_17)
  obtain ⟨fs, hr, hrun, hended, hW, hsame⟩ := X83.leave (v := some (.ref w_FAILED)) (fun h => by rw [hret] at h; cases h) hlk
  refine ⟨_, _, ?_, hrun, hended, _, _, rfl, ?_, ⟨_, rfl⟩, hW, hsame.mono (by decide) (by decide)⟩
  · show own_S p e below s₁ (mkF m 0 #[.val (.int (2 : Int32))] []) _
    refine XS.iloadN X0.here hx rfl (hb hby d_method_2_0) rfl ?_
    show own_S p e below s₁ (mkF m 1 #[.val (.int (2 : Int32))] [(.int (2 : Int32))]) _
    refine XS.ifYes X0.here hx rfl (pc0 := 1) (pc' := 8) rfl (hb hby d_method_2_1) rfl ((if0 _ _).trans (feq (by decide : ¬ ((2 : Int32) = (0 : Int32)))).2) (by decide) (by decide) ?_
    show own_S p e below s₁ (mkF m 8 #[.val (.int (2 : Int32))] []) _
    refine XS.iloadN X0.here hx rfl (hb hby d_method_2_8) rfl ?_
    show own_S p e below s₁ (mkF m 9 #[.val (.int (2 : Int32))] [(.int (2 : Int32))]) _
    refine XS.iconst X0.here hx rfl (hb hby d_method_2_9) ?_
    show own_S p e below s₁ (mkF m 10 #[.val (.int (2 : Int32))] [(.int (1 : Int32)), (.int (2 : Int32))]) _
    refine XS.icmpYes X0.here hx rfl (pc0 := 10) (pc' := 17) rfl (hb hby d_method_2_10) rfl (feq (by decide : ¬ ((2 : Int32) = (1 : Int32)))).2 (by decide) (by decide) ?_
    show own_S p e below s₁ (mkF m 17 #[.val (.int (2 : Int32))] []) _
    refine st83 _ ?_
    show own_S p e below T83 (mkF m 20 #[.val (.int (2 : Int32))] [(.ref w_FAILED)]) _
    jvm_step X83.here [X83.here.top, hx, (hb hby d_method_2_20), X83.method', hret, Value.isRef, FieldType.isReference]
    first | (intro acts; rw [hr _ acts rfl rfl rfl]) | rw [hr _ _ rfl rfl rfl]
    exact Steps.refl _
  · show Qrm82 Z w_FAILED h0 _ T83.heap _
    rw [e83]
    exact ⟨rfl, N0, rfl⟩
def Qrm90 (Z : State) (w_FAILED : Addr) (h0 : Heap) (v : Option Value) (h : Heap) (L : List Loc) : Prop := v = some (.int (2 : Int32)) ∧ Fr Z.heap.size L ∧ h = h0
set_option maxRecDepth 65536 in
set_option maxHeartbeats 40000000 in
theorem rm90 (l : Launch) (Z : State) (a0 : Array Value) (hw : ∀ d ∈ tables_1, d.before a0 Z = true) (ws : List Jvm.Cond) (w_FAILED : Addr) (h0 : Heap) (Z0 : Ext Z.heap h0) (F_w_FAILED_ordinal : Fld Z Z.heap w_FAILED "java/lang/Enum" "ordinal" "I" (.int (2 : Int32))) :
    own_met l y_2 jdk_37_method_2_code 1 (some .int) ws ({ frames := 0, cells := 0, slots := 0, locals := 0 } : Room) Z #[(.ref w_FAILED)] h0 (Qrm90 Z w_FAILED h0) := by
  refine own_start (plainFor_of_name pn_2) (fun m => ef_jdk_37_method_2_R m w_FAILED) ?_
  intro p e s m below meth c s₁ hx hby hml hown hnm X0 hZ e0 hret hlk
  have N0 := Fr.nil Z.heap.size
  obtain ⟨T91, X91, e91, st91⟩ := getF X0 hx hZ hown (host := "") (Or.inl (own_w hw 38 rfl)) Via.refl e0 (F_w_FAILED_ordinal.ext Z0) (g := (mkF m 1 #[.val (.ref w_FAILED)] [(.ref w_FAILED)])) rfl rfl (hb hby d_jdk_37_method_2_1)
  obtain ⟨fs, hr, hrun, hended, hW, hsame⟩ := X91.leave (v := some (.int (2 : Int32))) (fun h => by rw [hret] at h; cases h) hlk
  refine ⟨_, _, ?_, hrun, hended, _, _, rfl, ?_, ⟨_, rfl⟩, hW, hsame.mono (by decide) (by decide)⟩
  · show own_S p e below s₁ (mkF m 0 #[.val (.ref w_FAILED)] []) _
    refine XS.aloadN X0.here hx rfl (hb hby d_jdk_37_method_2_0) rfl rfl ?_
    show own_S p e below s₁ (mkF m 1 #[.val (.ref w_FAILED)] [(.ref w_FAILED)]) _
    refine st91 _ ?_
    show own_S p e below T91 (mkF m 4 #[.val (.ref w_FAILED)] [(.int (2 : Int32))]) _
    exact retI X91 hx hret (hb hby d_jdk_37_method_2_4) hr
  · show Qrm90 Z w_FAILED h0 _ T91.heap _
    rw [e91]
    exact ⟨rfl, N0, rfl⟩
def Qrm88 (Z : State) (w__SwitchMap_com_example_fill_realm_fillrealm_Outcome : Addr) (cl_w__SwitchMap_com_example_fill_realm_fillrealm_Outcome : Cell) (w_FAILED : Addr) (b80 : Addr) (x85 : Int32) (x86 : Int32) (x87 : Int32) (h0 : Heap) (v : Option Value) (h : Heap) (L : List Loc) : Prop := ∃ b93 : Addr, v = some (.ref b93) ∧ Fr Z.heap.size L ∧ Keep h0 h [] ∧ h0.size ≤ b93 ∧ Exa Z h b93 "com/example/fill_realm/fillrealm/Summary" ∧ Fld Z h b93 "com/example/fill_realm/fillrealm/Summary" "created" "I" (.int x85) ∧ Fld Z h b93 "com/example/fill_realm/fillrealm/Summary" "skipped" "I" (.int x86) ∧ Fld Z h b93 "com/example/fill_realm/fillrealm/Summary" "failed" "I" (.int (x87 + (1 : Int32)))
set_option maxRecDepth 65536 in
set_option maxHeartbeats 40000000 in
theorem rm88 (l : Launch) (Z : State) (a0 : Array Value) (hw : ∀ d ∈ tables_1, d.before a0 Z = true) (ws : List Jvm.Cond) (w__SwitchMap_com_example_fill_realm_fillrealm_Outcome : Addr) (cl_w__SwitchMap_com_example_fill_realm_fillrealm_Outcome : Cell) (w_FAILED : Addr) (b80 : Addr) (x85 : Int32) (x86 : Int32) (x87 : Int32) (h0 : Heap) (Z0 : Ext Z.heap h0) (S_w__SwitchMap_com_example_fill_realm_fillrealm_Outcome : Sta Z Z.heap "com/example/fill_realm/fillrealm/Summary$1" "$SwitchMap$com$example$fill_realm$fillrealm$Outcome" "[I" (.ref w__SwitchMap_com_example_fill_realm_fillrealm_Outcome)) (E_w_FAILED : Exa Z Z.heap w_FAILED "com/example/fill_realm/fillrealm/Outcome") (F_w_FAILED_ordinal : Fld Z Z.heap w_FAILED "java/lang/Enum" "ordinal" "I" (.int (2 : Int32))) (Ar_w__SwitchMap_com_example_fill_realm_fillrealm_Outcome : Arr Z Z.heap w__SwitchMap_com_example_fill_realm_fillrealm_Outcome cl_w__SwitchMap_com_example_fill_realm_fillrealm_Outcome .int) (hin_w__SwitchMap_com_example_fill_realm_fillrealm_Outcome_2 : ¬ ((2 : Int32) < 0 ∨ cl_w__SwitchMap_com_example_fill_realm_fillrealm_Outcome.slots.size ≤ ((2 : Int32)).toNatClampNeg)) (hat_w__SwitchMap_com_example_fill_realm_fillrealm_Outcome_2 : cl_w__SwitchMap_com_example_fill_realm_fillrealm_Outcome.slots[((2 : Int32)).toNatClampNeg]? = some (.int (3 : Int32))) (F_b80_created : Fld Z h0 b80 "com/example/fill_realm/fillrealm/Summary" "created" "I" (.int x85)) (F_b80_failed : Fld Z h0 b80 "com/example/fill_realm/fillrealm/Summary" "failed" "I" (.int x87)) (F_b80_skipped : Fld Z h0 b80 "com/example/fill_realm/fillrealm/Summary" "skipped" "I" (.int x86)) (hc21 : ¬ (x85 < (0 : Int32))) (hc22 : ¬ (x86 < (0 : Int32))) (hc23 : ¬ ((x87 + (1 : Int32)) < (0 : Int32))) :
    own_met l y_4 prog_13_method_6_code 2 (some (.object "com/example/fill_realm/fillrealm/Summary")) ws ({ frames := 2, cells := 1, slots := 3, locals := 28 } : Room) Z #[(.ref b80), (.ref w_FAILED)] h0 (Qrm88 Z w__SwitchMap_com_example_fill_realm_fillrealm_Outcome cl_w__SwitchMap_com_example_fill_realm_fillrealm_Outcome w_FAILED b80 x85 x86 x87 h0) := by
  refine own_start (plainFor_of_name pn_0) (fun m => ef_prog_13_method_6_RR m b80 w_FAILED) ?_
  intro p e s m below meth c s₁ hx hby hml hown hnm X0 hZ e0 hret hlk
  have N0 := Fr.nil Z.heap.size
  obtain ⟨T89, X89, e89, st89⟩ := getS2 X0 hx hZ hown (host := "") (Or.inl (own_w hw 28 rfl)) Via.refl e0 (S_w__SwitchMap_com_example_fill_realm_fillrealm_Outcome.ext Z0) (g := (mkF m 0 #[.val (.ref b80), .val (.ref w_FAILED)] [])) rfl (hb hby d_prog_13_method_6_0)
  obtain ⟨_, T92, Lc92, X92, hQ92, st92⟩ := own_virtualUp (z := y_3) (y := y_2) (owner := "java/lang/Enum") X89 hx hZ hown (own_w hw 31 rfl) (own_w hw 32 rfl) (own_w hw 33 rfl) (own_w hw 35 rfl) (own_w hw 34 rfl) (own_w hw 36 rfl) (own_w hw 37 rfl) (by decide) (rm90 l Z a0 hw [] w_FAILED h0 Z0 F_w_FAILED_ordinal) (by decide) (by decide) e89 (E_w_FAILED.ext Z0) (g := (mkF m 4 #[.val (.ref b80), .val (.ref w_FAILED)] [(.ref w_FAILED), (.ref w__SwitchMap_com_example_fill_realm_fillrealm_Outcome)])) rfl (by rw [hml]; rfl) (argsL := []) (rest := [(.ref w__SwitchMap_com_example_fill_realm_fillrealm_Outcome)]) (lenOf pd_2 rfl) rfl rfl (W := 1) (by show 2 * 0 + _ ≤ _; exact Nat.le_of_eq rfl) (hb hby d_prog_13_method_6_4) (by decide) (by decide)
  obtain ⟨rfl, N92q, e92⟩ := hQ92
  have N92 := Fr.app N0 N92q
  obtain ⟨T93, h93, X93, e93, E93, A93, D93, -, st93⟩ := newO X92 hx hZ hown (own_w hw 40 rfl) (own_w hw 2 rfl) (own_w hw 3 rfl) e92 (g := (mkF m 94 #[.val (.ref b80), .val (.ref w_FAILED)] [])) rfl (hb hby d_prog_13_method_6_94) (by decide) (by decide)
  obtain ⟨b93, g93⟩ : ∃ z, z = h0.size := ⟨_, rfl⟩
  rw [← g93] at A93 D93 st93
  have g_b93 : Z.heap.size ≤ b93 := Nat.le_trans Z0.1 (Nat.le_of_eq g93.symm)
  have sz_b93 : h0.size ≤ b93 := Nat.le_trans (Keep.refl h0 []).1 (Nat.le_of_eq g93.symm)
  have F_b93_created : Fld Z h93 b93 "com/example/fill_realm/fillrealm/Summary" "created" "I" (.int (0 : Int32)) := D93 (Or.inr (own_w hw 11 rfl)) (ty := .int) (by decide)
  have F_b93_skipped : Fld Z h93 b93 "com/example/fill_realm/fillrealm/Summary" "skipped" "I" (.int (0 : Int32)) := D93 (Or.inr (own_w hw 13 rfl)) (ty := .int) (by decide)
  have F_b93_failed : Fld Z h93 b93 "com/example/fill_realm/fillrealm/Summary" "failed" "I" (.int (0 : Int32)) := D93 (Or.inr (own_w hw 15 rfl)) (ty := .int) (by decide)
  have K93 : Keep h0 h93 [] := (Keep.refl h0 []).ext E93
  have XX93 : Ext Z.heap h93 := own_ext2 Z0 E93
  obtain ⟨T94, X94, e94, st94⟩ := getF X93 hx hZ hown (host := "") (Or.inl (own_w hw 10 rfl)) Via.refl e93 (F_b80_created.ext E93) (g := (mkF m 99 #[.val (.ref b80), .val (.ref w_FAILED)] [(.ref b80), (.ref b93), (.ref b93)])) rfl rfl (hb hby d_prog_13_method_6_99)
  obtain ⟨T95, X95, e95, st95⟩ := getF X94 hx hZ hown (host := "") (Or.inl (own_w hw 12 rfl)) Via.refl e94 (F_b80_skipped.ext E93) (g := (mkF m 103 #[.val (.ref b80), .val (.ref w_FAILED)] [(.ref b80), (.int x85), (.ref b93), (.ref b93)])) rfl rfl (hb hby d_prog_13_method_6_103)
  obtain ⟨T96, X96, e96, st96⟩ := getF X95 hx hZ hown (host := "") (Or.inl (own_w hw 14 rfl)) Via.refl e95 (F_b80_failed.ext E93) (g := (mkF m 107 #[.val (.ref b80), .val (.ref w_FAILED)] [(.ref b80), (.int x86), (.int x85), (.ref b93), (.ref b93)])) rfl rfl (hb hby d_prog_13_method_6_107)
  obtain ⟨_, T97, Lc97, X97, hQ97, st97⟩ := own_special (y := y_0) X96 hx hZ hown rfl (own_w hw 41 rfl) (own_w hw 5 rfl) (own_w hw 3 rfl) (own_w hw 6 rfl) (by decide) (rm5 l Z a0 hw [] b93 x85 x86 (x87 + (1 : Int32)) h93 XX93 A93 F_b93_created F_b93_failed F_b93_skipped g_b93 hc21 hc22 hc23) (by decide) (by decide) e96 (g := (mkF m 112 #[.val (.ref b80), .val (.ref w_FAILED)] [(.int (x87 + (1 : Int32))), (.int x86), (.int x85), (.ref b93), (.ref b93)])) rfl (by rw [hml]; rfl) b93 (argsL := [(.int x85), (.int x86), (.int (x87 + (1 : Int32)))]) (rest := [(.ref b93)]) (lenOf pd_0 rfl) rfl rfl (W := 1) (by show 2 * 0 + _ ≤ _; exact Nat.le_of_eq rfl) (hb hby d_prog_13_method_6_112) (by decide) (by decide)
  obtain ⟨rfl, N97q, K97q, q97_E_b93, q97_F_b93_created, q97_F_b93_failed, q97_F_b93_skipped⟩ := hQ97
  have K97 : Keep h0 T97.heap [] := K93.trans K97q (allS (Or.inr sz_b93) all0)
  have XX97 : Ext Z.heap T97.heap := own_extK XX93 K97q (allS g_b93 all0)
  have N97 := Fr.app N92 N97q
  obtain ⟨fs, hr, hrun, hended, hW, hsame⟩ := X97.leave (v := some (.ref b93)) (fun h => by rw [hret] at h; cases h) hlk
  refine ⟨_, _, ?_, hrun, hended, _, _, rfl, ?_, ⟨_, rfl⟩, hW, hsame.mono (by decide) (by decide)⟩
  · show own_S p e below s₁ (mkF m 0 #[.val (.ref b80), .val (.ref w_FAILED)] []) _
    refine st89 _ ?_
    show own_S p e below T89 (mkF m 3 #[.val (.ref b80), .val (.ref w_FAILED)] [(.ref w__SwitchMap_com_example_fill_realm_fillrealm_Outcome)]) _
    refine XS.aloadN X89.here hx rfl (hb hby d_prog_13_method_6_3) rfl rfl ?_
    show own_S p e below T89 (mkF m 4 #[.val (.ref b80), .val (.ref w_FAILED)] [(.ref w_FAILED), (.ref w__SwitchMap_com_example_fill_realm_fillrealm_Outcome)]) _
    refine st92 _ ?_
    show own_S p e below T92 (mkF m 7 #[.val (.ref b80), .val (.ref w_FAILED)] [(.int (2 : Int32)), (.ref w__SwitchMap_com_example_fill_realm_fillrealm_Outcome)]) _
    refine X92.iaload hx (j := (2 : Int32)) (v := (.int (3 : Int32))) (by rw [e92]; exact (Ar_w__SwitchMap_com_example_fill_realm_fillrealm_Outcome.ext Z0).1) (State.isArrayOf_alike hZ.alike (Ar_w__SwitchMap_com_example_fill_realm_fillrealm_Outcome.ext Z0).2.1) (Ar_w__SwitchMap_com_example_fill_realm_fillrealm_Outcome.ext Z0).2.2 hin_w__SwitchMap_com_example_fill_realm_fillrealm_Outcome_2 hat_w__SwitchMap_com_example_fill_realm_fillrealm_Outcome_2 (g := (mkF m 7 #[.val (.ref b80), .val (.ref w_FAILED)] [(.int (2 : Int32)), (.ref w__SwitchMap_com_example_fill_realm_fillrealm_Outcome)])) rfl rfl (hb hby d_prog_13_method_6_7) _ ?_
    show own_S p e below T92 (mkF m 8 #[.val (.ref b80), .val (.ref w_FAILED)] [(.int (3 : Int32))]) _
    refine XS.tswIn X92.here hx rfl (pc0 := 8) (pc' := 94) (o := 86) rfl (hb hby d_prog_13_method_6_8) rfl (by decide) (by decide) (by decide) (by decide) ?_
    show own_S p e below T92 (mkF m 94 #[.val (.ref b80), .val (.ref w_FAILED)] []) _
    refine st93 _ ?_
    show own_S p e below T93 (mkF m 97 #[.val (.ref b80), .val (.ref w_FAILED)] [(.ref b93)]) _
    refine XS.dup X93.here hx rfl (hb hby d_prog_13_method_6_97) rfl rfl ?_
    show own_S p e below T93 (mkF m 98 #[.val (.ref b80), .val (.ref w_FAILED)] [(.ref b93), (.ref b93)]) _
    refine XS.aloadN X93.here hx rfl (hb hby d_prog_13_method_6_98) rfl rfl ?_
    show own_S p e below T93 (mkF m 99 #[.val (.ref b80), .val (.ref w_FAILED)] [(.ref b80), (.ref b93), (.ref b93)]) _
    refine st94 _ ?_
    show own_S p e below T94 (mkF m 102 #[.val (.ref b80), .val (.ref w_FAILED)] [(.int x85), (.ref b93), (.ref b93)]) _
    refine XS.aloadN X94.here hx rfl (hb hby d_prog_13_method_6_102) rfl rfl ?_
    show own_S p e below T94 (mkF m 103 #[.val (.ref b80), .val (.ref w_FAILED)] [(.ref b80), (.int x85), (.ref b93), (.ref b93)]) _
    refine st95 _ ?_
    show own_S p e below T95 (mkF m 106 #[.val (.ref b80), .val (.ref w_FAILED)] [(.int x86), (.int x85), (.ref b93), (.ref b93)]) _
    refine XS.aloadN X95.here hx rfl (hb hby d_prog_13_method_6_106) rfl rfl ?_
    show own_S p e below T95 (mkF m 107 #[.val (.ref b80), .val (.ref w_FAILED)] [(.ref b80), (.int x86), (.int x85), (.ref b93), (.ref b93)]) _
    refine st96 _ ?_
    show own_S p e below T96 (mkF m 110 #[.val (.ref b80), .val (.ref w_FAILED)] [(.int x87), (.int x86), (.int x85), (.ref b93), (.ref b93)]) _
    refine XS.iconst X96.here hx rfl (hb hby d_prog_13_method_6_110) ?_
    show own_S p e below T96 (mkF m 111 #[.val (.ref b80), .val (.ref w_FAILED)] [(.int (1 : Int32)), (.int x87), (.int x86), (.int x85), (.ref b93), (.ref b93)]) _
    refine XS.iadd X96.here hx rfl (hb hby d_prog_13_method_6_111) rfl ?_
    show own_S p e below T96 (mkF m 112 #[.val (.ref b80), .val (.ref w_FAILED)] [(.int (x87 + (1 : Int32))), (.int x86), (.int x85), (.ref b93), (.ref b93)]) _
    refine st97 _ ?_
    show own_S p e below T97 (mkF m 115 #[.val (.ref b80), .val (.ref w_FAILED)] [(.ref b93)]) _
    jvm_step X97.here [X97.here.top, hx, (hb hby d_prog_13_method_6_115), X97.method', hret, Value.isRef, FieldType.isReference]
    first | (intro acts; rw [hr _ acts rfl rfl rfl]) | rw [hr _ _ rfl rfl rfl]
    exact Steps.refl _
  · show Qrm88 Z w__SwitchMap_com_example_fill_realm_fillrealm_Outcome cl_w__SwitchMap_com_example_fill_realm_fillrealm_Outcome w_FAILED b80 x85 x86 x87 h0 _ T97.heap _
    exact ⟨b93, rfl, N97, K97, sz_b93, q97_E_b93, q97_F_b93_created, q97_F_b93_skipped, q97_F_b93_failed⟩
def Qrm0_2 (Z : State) (w__SwitchMap_com_example_fill_realm_fillrealm_Outcome : Addr) (cl_w__SwitchMap_com_example_fill_realm_fillrealm_Outcome : Cell) (w_FAILED : Addr) (p1 : Int32) (p2 : Int32) (p3 : Int32) (p4 : Int32) (h0 : Heap) (v : Option Value) (h : Heap) (L : List Loc) : Prop := v = some (.int 1) ∧ Fr Z.heap.size L
set_option maxRecDepth 65536 in
set_option maxHeartbeats 40000000 in
theorem rm0_2 (l : Launch) (Z : State) (a0 : Array Value) (hw : ∀ d ∈ tables_1, d.before a0 Z = true) (ws : List Jvm.Cond) (w__SwitchMap_com_example_fill_realm_fillrealm_Outcome : Addr) (cl_w__SwitchMap_com_example_fill_realm_fillrealm_Outcome : Cell) (w_FAILED : Addr) (p1 : Int32) (p2 : Int32) (p3 : Int32) (p4 : Int32) (h0 : Heap) (Z0 : Ext Z.heap h0) (S_w_FAILED : Sta Z Z.heap "com/example/fill_realm/fillrealm/Outcome" "FAILED" "Lcom/example/fill_realm/fillrealm/Outcome;" (.ref w_FAILED)) (S_w__SwitchMap_com_example_fill_realm_fillrealm_Outcome : Sta Z Z.heap "com/example/fill_realm/fillrealm/Summary$1" "$SwitchMap$com$example$fill_realm$fillrealm$Outcome" "[I" (.ref w__SwitchMap_com_example_fill_realm_fillrealm_Outcome)) (E_w_FAILED : Exa Z Z.heap w_FAILED "com/example/fill_realm/fillrealm/Outcome") (F_w_FAILED_ordinal : Fld Z Z.heap w_FAILED "java/lang/Enum" "ordinal" "I" (.int (2 : Int32))) (Ar_w__SwitchMap_com_example_fill_realm_fillrealm_Outcome : Arr Z Z.heap w__SwitchMap_com_example_fill_realm_fillrealm_Outcome cl_w__SwitchMap_com_example_fill_realm_fillrealm_Outcome .int) (hin_w__SwitchMap_com_example_fill_realm_fillrealm_Outcome_2 : ¬ ((2 : Int32) < 0 ∨ cl_w__SwitchMap_com_example_fill_realm_fillrealm_Outcome.slots.size ≤ ((2 : Int32)).toNatClampNeg)) (hat_w__SwitchMap_com_example_fill_realm_fillrealm_Outcome_2 : cl_w__SwitchMap_com_example_fill_realm_fillrealm_Outcome.slots[((2 : Int32)).toNatClampNeg]? = some (.int (3 : Int32))) (hc19 : ((p4 &&& (2147483647 : Int32)) % (3 : Int32)) = (2 : Int32)) (hc13 : ¬ ((p1 &&& (2147483647 : Int32)) < (0 : Int32))) (hc6 : ¬ ((p2 &&& (2147483647 : Int32)) < (0 : Int32))) (hc20 : ¬ (((p3 &&& (2147483647 : Int32)) % (2147483647 : Int32)) < (0 : Int32))) (hc24 : ¬ ((((p3 &&& (2147483647 : Int32)) % (2147483647 : Int32)) + (1 : Int32)) < (0 : Int32))) :
    own_met l x code maxLocals ret ws room_1 Z #[(.int p1), (.int p2), (.int p3), (.int p4)] h0 (Qrm0_2 Z w__SwitchMap_com_example_fill_realm_fillrealm_Outcome cl_w__SwitchMap_com_example_fill_realm_fillrealm_Outcome w_FAILED p1 p2 p3 p4 h0) := by
  refine own_start (plainFor_of_name pn_1) (fun m => ef_code_IIII m p1 p2 p3 p4) ?_
  intro p e s m below meth c s₁ hx hby hml hown hnm X0 hZ e0 hret hlk
  have N0 := Fr.nil Z.heap.size
  obtain ⟨T80, h80, X80, e80, E80, A80, D80, -, st80⟩ := newO X0 hx hZ hown (own_w hw 1 rfl) (own_w hw 2 rfl) (own_w hw 3 rfl) e0 (g := (mkF m 64 #[.val (.int p1), .val (.int p2), .val (.int p3), .val (.int p4), .val (.int (2 : Int32)), .val (.int (p1 &&& (2147483647 : Int32))), .val (.int (p2 &&& (2147483647 : Int32))), .val (.int ((p3 &&& (2147483647 : Int32)) % (2147483647 : Int32))), .unset, .unset, .unset, .unset, .unset, .unset, .unset] [])) rfl (hb hby at_64) (by decide) (by decide)
  obtain ⟨b80, g80⟩ : ∃ z, z = h0.size := ⟨_, rfl⟩
  rw [← g80] at A80 D80 st80
  have g_b80 : Z.heap.size ≤ b80 := Nat.le_trans Z0.1 (Nat.le_of_eq g80.symm)
  have sz_b80 : h0.size ≤ b80 := Nat.le_trans (Keep.refl h0 []).1 (Nat.le_of_eq g80.symm)
  have F_b80_created : Fld Z h80 b80 "com/example/fill_realm/fillrealm/Summary" "created" "I" (.int (0 : Int32)) := D80 (Or.inr (own_w hw 11 rfl)) (ty := .int) (by decide)
  have F_b80_skipped : Fld Z h80 b80 "com/example/fill_realm/fillrealm/Summary" "skipped" "I" (.int (0 : Int32)) := D80 (Or.inr (own_w hw 13 rfl)) (ty := .int) (by decide)
  have F_b80_failed : Fld Z h80 b80 "com/example/fill_realm/fillrealm/Summary" "failed" "I" (.int (0 : Int32)) := D80 (Or.inr (own_w hw 15 rfl)) (ty := .int) (by decide)
  have K80 : Keep h0 h80 [] := (Keep.refl h0 []).ext E80
  have XX80 : Ext Z.heap h80 := own_ext2 Z0 E80
  obtain ⟨_, T81, Lc81, X81, hQ81, st81⟩ := own_special (y := y_0) X80 hx hZ hown rfl (own_w hw 4 rfl) (own_w hw 5 rfl) (own_w hw 3 rfl) (own_w hw 6 rfl) (by decide) (rm5 l Z a0 hw [] b80 (p1 &&& (2147483647 : Int32)) (p2 &&& (2147483647 : Int32)) ((p3 &&& (2147483647 : Int32)) % (2147483647 : Int32)) h80 XX80 A80 F_b80_created F_b80_failed F_b80_skipped g_b80 hc13 hc6 hc20) (by decide) (by decide) e80 (g := (mkF m 74 #[.val (.int p1), .val (.int p2), .val (.int p3), .val (.int p4), .val (.int (2 : Int32)), .val (.int (p1 &&& (2147483647 : Int32))), .val (.int (p2 &&& (2147483647 : Int32))), .val (.int ((p3 &&& (2147483647 : Int32)) % (2147483647 : Int32))), .unset, .unset, .unset, .unset, .unset, .unset, .unset] [(.int ((p3 &&& (2147483647 : Int32)) % (2147483647 : Int32))), (.int (p2 &&& (2147483647 : Int32))), (.int (p1 &&& (2147483647 : Int32))), (.ref b80), (.ref b80)])) rfl (by rw [hml]; rfl) b80 (argsL := [(.int (p1 &&& (2147483647 : Int32))), (.int (p2 &&& (2147483647 : Int32))), (.int ((p3 &&& (2147483647 : Int32)) % (2147483647 : Int32)))]) (rest := [(.ref b80)]) (lenOf pd_0 rfl) rfl rfl (W := 1) (by show 2 * 0 + _ ≤ _; exact Nat.le_of_eq rfl) (hb hby at_74) (by decide) (by decide)
  obtain ⟨rfl, N81q, K81q, q81_E_b80, q81_F_b80_created, q81_F_b80_failed, q81_F_b80_skipped⟩ := hQ81
  have K81 : Keep h0 T81.heap [] := K80.trans K81q (allS (Or.inr sz_b80) all0)
  have XX81 : Ext Z.heap T81.heap := own_extK XX80 K81q (allS g_b80 all0)
  have N81 := Fr.app N0 N81q
  obtain ⟨_, T84, Lc84, X84, hQ84, st84⟩ := own_static (y := y_1) X81 hx hZ hown (own_w hw 16 rfl) (own_w hw 17 rfl) (own_w hw 18 rfl) (own_w hw 19 rfl) (by decide) (rm82 l Z a0 hw [] w_FAILED T81.heap XX81 S_w_FAILED) (by decide) (by decide) rfl (g := (mkF m 83 #[.val (.int p1), .val (.int p2), .val (.int p3), .val (.int p4), .val (.int (2 : Int32)), .val (.int (p1 &&& (2147483647 : Int32))), .val (.int (p2 &&& (2147483647 : Int32))), .val (.int ((p3 &&& (2147483647 : Int32)) % (2147483647 : Int32))), .val (.ref b80), .unset, .unset, .unset, .unset, .unset, .unset] [(.int (2 : Int32)), (.ref b80)])) rfl (by rw [hml]; rfl) (argsL := [(.int (2 : Int32))]) (rest := [(.ref b80)]) (lenOf pd_1 rfl) rfl rfl (W := 1) (by show 2 * 0 + _ ≤ _; exact Nat.le_of_eq rfl) (hb hby at_83) (by decide) (by decide)
  obtain ⟨rfl, N84q, e84⟩ := hQ84
  have N84 := Fr.app N81 N84q
  obtain ⟨_, T98, Lc98, X98, hQ98, st98⟩ := own_virtual (y := y_4) X84 hx hZ hown (own_w hw 23 rfl) (own_w hw 24 rfl) (own_w hw 26 rfl) (own_w hw 25 rfl) (own_w hw 3 rfl) (own_w hw 27 rfl) (by decide) (rm88 l Z a0 hw [] w__SwitchMap_com_example_fill_realm_fillrealm_Outcome cl_w__SwitchMap_com_example_fill_realm_fillrealm_Outcome w_FAILED b80 (p1 &&& (2147483647 : Int32)) (p2 &&& (2147483647 : Int32)) ((p3 &&& (2147483647 : Int32)) % (2147483647 : Int32)) T81.heap XX81 S_w__SwitchMap_com_example_fill_realm_fillrealm_Outcome E_w_FAILED F_w_FAILED_ordinal Ar_w__SwitchMap_com_example_fill_realm_fillrealm_Outcome hin_w__SwitchMap_com_example_fill_realm_fillrealm_Outcome_2 hat_w__SwitchMap_com_example_fill_realm_fillrealm_Outcome_2 q81_F_b80_created q81_F_b80_failed q81_F_b80_skipped hc13 hc6 hc24) (by decide) (by decide) e84 q81_E_b80 (g := (mkF m 86 #[.val (.int p1), .val (.int p2), .val (.int p3), .val (.int p4), .val (.int (2 : Int32)), .val (.int (p1 &&& (2147483647 : Int32))), .val (.int (p2 &&& (2147483647 : Int32))), .val (.int ((p3 &&& (2147483647 : Int32)) % (2147483647 : Int32))), .val (.ref b80), .unset, .unset, .unset, .unset, .unset, .unset] [(.ref w_FAILED), (.ref b80)])) rfl (by rw [hml]; rfl) (argsL := [(.ref w_FAILED)]) (rest := []) (lenOf pd_3 rfl) rfl rfl (W := 0) (by show 2 * 0 + _ ≤ _; exact Nat.le_of_eq rfl) (hb hby at_86) (by decide) (by decide)
  obtain ⟨b99, rfl, N98q, K98q, szn_b99, q98_E_b99, q98_F_b99_created, q98_F_b99_skipped, q98_F_b99_failed⟩ := hQ98
  have g_b99 : Z.heap.size ≤ b99 := Nat.le_trans XX81.1 szn_b99
  have sz_b99 : h0.size ≤ b99 := Nat.le_trans K81.1 szn_b99
  have K98 : Keep h0 T98.heap [] := K81.trans K98q all0
  have XX98 : Ext Z.heap T98.heap := own_extK XX81 K98q all0
  have N98 := Fr.app N84 N98q
  obtain ⟨_, T100, Lc100, X100, hQ100, st100⟩ := own_virtual (y := y_5) X98 hx hZ hown (own_w hw 42 rfl) (own_w hw 43 rfl) (own_w hw 45 rfl) (own_w hw 44 rfl) (own_w hw 3 rfl) (own_w hw 46 rfl) (by decide) (rm36 l Z a0 hw [] b99 (p1 &&& (2147483647 : Int32)) T98.heap XX98 q98_F_b99_created) (by decide) (by decide) rfl q98_E_b99 (g := (mkF m 140 #[.val (.int p1), .val (.int p2), .val (.int p3), .val (.int p4), .val (.int (2 : Int32)), .val (.int (p1 &&& (2147483647 : Int32))), .val (.int (p2 &&& (2147483647 : Int32))), .val (.int ((p3 &&& (2147483647 : Int32)) % (2147483647 : Int32))), .val (.ref b80), .val (.ref b99), .val (.int (p1 &&& (2147483647 : Int32))), .val (.int (p2 &&& (2147483647 : Int32))), .val (.int (((p3 &&& (2147483647 : Int32)) % (2147483647 : Int32)) + (1 : Int32))), .unset, .unset] [(.ref b99)])) rfl (by rw [hml]; rfl) (argsL := []) (rest := []) (lenOf pd_2 rfl) rfl rfl (W := 0) (by show 2 * 0 + _ ≤ _; exact Nat.le_of_eq rfl) (hb hby at_140) (by decide) (by decide)
  obtain ⟨rfl, N100q, e100⟩ := hQ100
  have N100 := Fr.app N98 N100q
  obtain ⟨_, T101, Lc101, X101, hQ101, st101⟩ := own_virtual (y := y_6) X100 hx hZ hown (own_w hw 47 rfl) (own_w hw 48 rfl) (own_w hw 50 rfl) (own_w hw 49 rfl) (own_w hw 3 rfl) (own_w hw 51 rfl) (by decide) (rm42 l Z a0 hw [] b99 (p2 &&& (2147483647 : Int32)) T98.heap XX98 q98_F_b99_skipped) (by decide) (by decide) e100 q98_E_b99 (g := (mkF m 150 #[.val (.int p1), .val (.int p2), .val (.int p3), .val (.int p4), .val (.int (2 : Int32)), .val (.int (p1 &&& (2147483647 : Int32))), .val (.int (p2 &&& (2147483647 : Int32))), .val (.int ((p3 &&& (2147483647 : Int32)) % (2147483647 : Int32))), .val (.ref b80), .val (.ref b99), .val (.int (p1 &&& (2147483647 : Int32))), .val (.int (p2 &&& (2147483647 : Int32))), .val (.int (((p3 &&& (2147483647 : Int32)) % (2147483647 : Int32)) + (1 : Int32))), .unset, .unset] [(.ref b99)])) rfl (by rw [hml]; rfl) (argsL := []) (rest := []) (lenOf pd_2 rfl) rfl rfl (W := 0) (by show 2 * 0 + _ ≤ _; exact Nat.le_of_eq rfl) (hb hby at_150) (by decide) (by decide)
  obtain ⟨rfl, N101q, e101⟩ := hQ101
  have N101 := Fr.app N100 N101q
  obtain ⟨_, T102, Lc102, X102, hQ102, st102⟩ := own_virtual (y := y_7) X101 hx hZ hown (own_w hw 52 rfl) (own_w hw 53 rfl) (own_w hw 55 rfl) (own_w hw 54 rfl) (own_w hw 3 rfl) (own_w hw 56 rfl) (by decide) (rm48 l Z a0 hw [] b99 (((p3 &&& (2147483647 : Int32)) % (2147483647 : Int32)) + (1 : Int32)) T98.heap XX98 q98_F_b99_failed) (by decide) (by decide) e101 q98_E_b99 (g := (mkF m 160 #[.val (.int p1), .val (.int p2), .val (.int p3), .val (.int p4), .val (.int (2 : Int32)), .val (.int (p1 &&& (2147483647 : Int32))), .val (.int (p2 &&& (2147483647 : Int32))), .val (.int ((p3 &&& (2147483647 : Int32)) % (2147483647 : Int32))), .val (.ref b80), .val (.ref b99), .val (.int (p1 &&& (2147483647 : Int32))), .val (.int (p2 &&& (2147483647 : Int32))), .val (.int (((p3 &&& (2147483647 : Int32)) % (2147483647 : Int32)) + (1 : Int32))), .unset, .unset] [(.ref b99)])) rfl (by rw [hml]; rfl) (argsL := []) (rest := []) (lenOf pd_2 rfl) rfl rfl (W := 0) (by show 2 * 0 + _ ≤ _; exact Nat.le_of_eq rfl) (hb hby at_160) (by decide) (by decide)
  obtain ⟨rfl, N102q, e102⟩ := hQ102
  have N102 := Fr.app N101 N102q
  obtain ⟨_, T103, Lc103, X103, hQ103, st103⟩ := own_virtual (y := y_5) X102 hx hZ hown (own_w hw 42 rfl) (own_w hw 43 rfl) (own_w hw 45 rfl) (own_w hw 44 rfl) (own_w hw 3 rfl) (own_w hw 46 rfl) (by decide) (rm36 l Z a0 hw [] b80 (p1 &&& (2147483647 : Int32)) T98.heap XX98 (q81_F_b80_created.keep K98q nin0)) (by decide) (by decide) e102 (q81_E_b80.keep K98q) (g := (mkF m 177 #[.val (.int p1), .val (.int p2), .val (.int p3), .val (.int p4), .val (.int (2 : Int32)), .val (.int (p1 &&& (2147483647 : Int32))), .val (.int (p2 &&& (2147483647 : Int32))), .val (.int ((p3 &&& (2147483647 : Int32)) % (2147483647 : Int32))), .val (.ref b80), .val (.ref b99), .val (.int (p1 &&& (2147483647 : Int32))), .val (.int (p2 &&& (2147483647 : Int32))), .val (.int (((p3 &&& (2147483647 : Int32)) % (2147483647 : Int32)) + (1 : Int32))), .val (.int (1 : Int32)), .unset] [(.ref b80)])) rfl (by rw [hml]; rfl) (argsL := []) (rest := []) (lenOf pd_2 rfl) rfl rfl (W := 0) (by show 2 * 0 + _ ≤ _; exact Nat.le_of_eq rfl) (hb hby at_177) (by decide) (by decide)
  obtain ⟨rfl, N103q, e103⟩ := hQ103
  have N103 := Fr.app N102 N103q
  obtain ⟨_, T104, Lc104, X104, hQ104, st104⟩ := own_virtual (y := y_6) X103 hx hZ hown (own_w hw 47 rfl) (own_w hw 48 rfl) (own_w hw 50 rfl) (own_w hw 49 rfl) (own_w hw 3 rfl) (own_w hw 51 rfl) (by decide) (rm42 l Z a0 hw [] b80 (p2 &&& (2147483647 : Int32)) T98.heap XX98 (q81_F_b80_skipped.keep K98q nin0)) (by decide) (by decide) e103 (q81_E_b80.keep K98q) (g := (mkF m 187 #[.val (.int p1), .val (.int p2), .val (.int p3), .val (.int p4), .val (.int (2 : Int32)), .val (.int (p1 &&& (2147483647 : Int32))), .val (.int (p2 &&& (2147483647 : Int32))), .val (.int ((p3 &&& (2147483647 : Int32)) % (2147483647 : Int32))), .val (.ref b80), .val (.ref b99), .val (.int (p1 &&& (2147483647 : Int32))), .val (.int (p2 &&& (2147483647 : Int32))), .val (.int (((p3 &&& (2147483647 : Int32)) % (2147483647 : Int32)) + (1 : Int32))), .val (.int (1 : Int32)), .unset] [(.ref b80)])) rfl (by rw [hml]; rfl) (argsL := []) (rest := []) (lenOf pd_2 rfl) rfl rfl (W := 0) (by show 2 * 0 + _ ≤ _; exact Nat.le_of_eq rfl) (hb hby at_187) (by decide) (by decide)
  obtain ⟨rfl, N104q, e104⟩ := hQ104
  have N104 := Fr.app N103 N104q
  obtain ⟨_, T105, Lc105, X105, hQ105, st105⟩ := own_virtual (y := y_7) X104 hx hZ hown (own_w hw 52 rfl) (own_w hw 53 rfl) (own_w hw 55 rfl) (own_w hw 54 rfl) (own_w hw 3 rfl) (own_w hw 56 rfl) (by decide) (rm48 l Z a0 hw [] b80 ((p3 &&& (2147483647 : Int32)) % (2147483647 : Int32)) T98.heap XX98 (q81_F_b80_failed.keep K98q nin0)) (by decide) (by decide) e104 (q81_E_b80.keep K98q) (g := (mkF m 197 #[.val (.int p1), .val (.int p2), .val (.int p3), .val (.int p4), .val (.int (2 : Int32)), .val (.int (p1 &&& (2147483647 : Int32))), .val (.int (p2 &&& (2147483647 : Int32))), .val (.int ((p3 &&& (2147483647 : Int32)) % (2147483647 : Int32))), .val (.ref b80), .val (.ref b99), .val (.int (p1 &&& (2147483647 : Int32))), .val (.int (p2 &&& (2147483647 : Int32))), .val (.int (((p3 &&& (2147483647 : Int32)) % (2147483647 : Int32)) + (1 : Int32))), .val (.int (1 : Int32)), .unset] [(.ref b80)])) rfl (by rw [hml]; rfl) (argsL := []) (rest := []) (lenOf pd_2 rfl) rfl rfl (W := 0) (by show 2 * 0 + _ ≤ _; exact Nat.le_of_eq rfl) (hb hby at_197) (by decide) (by decide)
  obtain ⟨rfl, N105q, e105⟩ := hQ105
  have N105 := Fr.app N104 N105q
  obtain ⟨fs, hr, hrun, hended, hW, hsame⟩ := X105.leave (v := some (.int (1 : Int32))) (fun h => by rw [hret] at h; cases h) hlk
  refine ⟨_, _, ?_, hrun, hended, _, _, rfl, ?_, ⟨_, rfl⟩, hW, hsame.mono (by decide) (by decide)⟩
  · show own_S p e below s₁ (mkF m 0 #[.val (.int p1), .val (.int p2), .val (.int p3), .val (.int p4), .unset, .unset, .unset, .unset, .unset, .unset, .unset, .unset, .unset, .unset, .unset] []) _
    refine XS.iloadN X0.here hx rfl (hb hby at_0) rfl ?_
    show own_S p e below s₁ (mkF m 1 #[.val (.int p1), .val (.int p2), .val (.int p3), .val (.int p4), .unset, .unset, .unset, .unset, .unset, .unset, .unset, .unset, .unset, .unset, .unset] [(.int p4)]) _
    refine X0.ldcInt hx hown (mvT hZ (own_w hw 0 rfl)) (g := (mkF m 1 #[.val (.int p1), .val (.int p2), .val (.int p3), .val (.int p4), .unset, .unset, .unset, .unset, .unset, .unset, .unset, .unset, .unset, .unset, .unset] [(.int p4)])) rfl (hb hby at_1) _ ?_
    show own_S p e below s₁ (mkF m 3 #[.val (.int p1), .val (.int p2), .val (.int p3), .val (.int p4), .unset, .unset, .unset, .unset, .unset, .unset, .unset, .unset, .unset, .unset, .unset] [(.int (2147483647 : Int32)), (.int p4)]) _
    refine XS.iand X0.here hx rfl (hb hby at_3) rfl ?_
    show own_S p e below s₁ (mkF m 4 #[.val (.int p1), .val (.int p2), .val (.int p3), .val (.int p4), .unset, .unset, .unset, .unset, .unset, .unset, .unset, .unset, .unset, .unset, .unset] [(.int (p4 &&& (2147483647 : Int32)))]) _
    refine XS.iconst X0.here hx rfl (hb hby at_4) ?_
    show own_S p e below s₁ (mkF m 5 #[.val (.int p1), .val (.int p2), .val (.int p3), .val (.int p4), .unset, .unset, .unset, .unset, .unset, .unset, .unset, .unset, .unset, .unset, .unset] [(.int (3 : Int32)), (.int (p4 &&& (2147483647 : Int32)))]) _
    refine iremM X0 hx rfl (hb hby at_5) rfl (by decide) ?_
    show own_S p e below s₁ (mkF m 6 #[.val (.int p1), .val (.int p2), .val (.int p3), .val (.int p4), .unset, .unset, .unset, .unset, .unset, .unset, .unset, .unset, .unset, .unset, .unset] [(.int ((p4 &&& (2147483647 : Int32)) % (3 : Int32)))]) _
    rw [hc19]
    show own_S p e below s₁ (mkF m 6 #[.val (.int p1), .val (.int p2), .val (.int p3), .val (.int p4), .unset, .unset, .unset, .unset, .unset, .unset, .unset, .unset, .unset, .unset, .unset] [(.int (2 : Int32))]) _
    refine XS.istore X0.here hx rfl (hb hby at_6) rfl (l' := #[.val (.int p1), .val (.int p2), .val (.int p3), .val (.int p4), .val (.int (2 : Int32)), .unset, .unset, .unset, .unset, .unset, .unset, .unset, .unset, .unset, .unset]) rfl ?_
    show own_S p e below s₁ (mkF m 8 #[.val (.int p1), .val (.int p2), .val (.int p3), .val (.int p4), .val (.int (2 : Int32)), .unset, .unset, .unset, .unset, .unset, .unset, .unset, .unset, .unset, .unset] []) _
    refine XS.iloadN X0.here hx rfl (hb hby at_8) rfl ?_
    show own_S p e below s₁ (mkF m 9 #[.val (.int p1), .val (.int p2), .val (.int p3), .val (.int p4), .val (.int (2 : Int32)), .unset, .unset, .unset, .unset, .unset, .unset, .unset, .unset, .unset, .unset] [(.int p1)]) _
    refine X0.ldcInt hx hown (mvT hZ (own_w hw 0 rfl)) (g := (mkF m 9 #[.val (.int p1), .val (.int p2), .val (.int p3), .val (.int p4), .val (.int (2 : Int32)), .unset, .unset, .unset, .unset, .unset, .unset, .unset, .unset, .unset, .unset] [(.int p1)])) rfl (hb hby at_9) _ ?_
    show own_S p e below s₁ (mkF m 11 #[.val (.int p1), .val (.int p2), .val (.int p3), .val (.int p4), .val (.int (2 : Int32)), .unset, .unset, .unset, .unset, .unset, .unset, .unset, .unset, .unset, .unset] [(.int (2147483647 : Int32)), (.int p1)]) _
    refine XS.iand X0.here hx rfl (hb hby at_11) rfl ?_
    show own_S p e below s₁ (mkF m 12 #[.val (.int p1), .val (.int p2), .val (.int p3), .val (.int p4), .val (.int (2 : Int32)), .unset, .unset, .unset, .unset, .unset, .unset, .unset, .unset, .unset, .unset] [(.int (p1 &&& (2147483647 : Int32)))]) _
    refine XS.istore X0.here hx rfl (hb hby at_12) rfl (l' := #[.val (.int p1), .val (.int p2), .val (.int p3), .val (.int p4), .val (.int (2 : Int32)), .val (.int (p1 &&& (2147483647 : Int32))), .unset, .unset, .unset, .unset, .unset, .unset, .unset, .unset, .unset]) rfl ?_
    show own_S p e below s₁ (mkF m 14 #[.val (.int p1), .val (.int p2), .val (.int p3), .val (.int p4), .val (.int (2 : Int32)), .val (.int (p1 &&& (2147483647 : Int32))), .unset, .unset, .unset, .unset, .unset, .unset, .unset, .unset, .unset] []) _
    refine XS.iloadN X0.here hx rfl (hb hby at_14) rfl ?_
    show own_S p e below s₁ (mkF m 15 #[.val (.int p1), .val (.int p2), .val (.int p3), .val (.int p4), .val (.int (2 : Int32)), .val (.int (p1 &&& (2147483647 : Int32))), .unset, .unset, .unset, .unset, .unset, .unset, .unset, .unset, .unset] [(.int p2)]) _
    refine X0.ldcInt hx hown (mvT hZ (own_w hw 0 rfl)) (g := (mkF m 15 #[.val (.int p1), .val (.int p2), .val (.int p3), .val (.int p4), .val (.int (2 : Int32)), .val (.int (p1 &&& (2147483647 : Int32))), .unset, .unset, .unset, .unset, .unset, .unset, .unset, .unset, .unset] [(.int p2)])) rfl (hb hby at_15) _ ?_
    show own_S p e below s₁ (mkF m 17 #[.val (.int p1), .val (.int p2), .val (.int p3), .val (.int p4), .val (.int (2 : Int32)), .val (.int (p1 &&& (2147483647 : Int32))), .unset, .unset, .unset, .unset, .unset, .unset, .unset, .unset, .unset] [(.int (2147483647 : Int32)), (.int p2)]) _
    refine XS.iand X0.here hx rfl (hb hby at_17) rfl ?_
    show own_S p e below s₁ (mkF m 18 #[.val (.int p1), .val (.int p2), .val (.int p3), .val (.int p4), .val (.int (2 : Int32)), .val (.int (p1 &&& (2147483647 : Int32))), .unset, .unset, .unset, .unset, .unset, .unset, .unset, .unset, .unset] [(.int (p2 &&& (2147483647 : Int32)))]) _
    refine XS.istore X0.here hx rfl (hb hby at_18) rfl (l' := #[.val (.int p1), .val (.int p2), .val (.int p3), .val (.int p4), .val (.int (2 : Int32)), .val (.int (p1 &&& (2147483647 : Int32))), .val (.int (p2 &&& (2147483647 : Int32))), .unset, .unset, .unset, .unset, .unset, .unset, .unset, .unset]) rfl ?_
    show own_S p e below s₁ (mkF m 20 #[.val (.int p1), .val (.int p2), .val (.int p3), .val (.int p4), .val (.int (2 : Int32)), .val (.int (p1 &&& (2147483647 : Int32))), .val (.int (p2 &&& (2147483647 : Int32))), .unset, .unset, .unset, .unset, .unset, .unset, .unset, .unset] []) _
    refine XS.iloadN X0.here hx rfl (hb hby at_20) rfl ?_
    show own_S p e below s₁ (mkF m 21 #[.val (.int p1), .val (.int p2), .val (.int p3), .val (.int p4), .val (.int (2 : Int32)), .val (.int (p1 &&& (2147483647 : Int32))), .val (.int (p2 &&& (2147483647 : Int32))), .unset, .unset, .unset, .unset, .unset, .unset, .unset, .unset] [(.int p3)]) _
    refine X0.ldcInt hx hown (mvT hZ (own_w hw 0 rfl)) (g := (mkF m 21 #[.val (.int p1), .val (.int p2), .val (.int p3), .val (.int p4), .val (.int (2 : Int32)), .val (.int (p1 &&& (2147483647 : Int32))), .val (.int (p2 &&& (2147483647 : Int32))), .unset, .unset, .unset, .unset, .unset, .unset, .unset, .unset] [(.int p3)])) rfl (hb hby at_21) _ ?_
    show own_S p e below s₁ (mkF m 23 #[.val (.int p1), .val (.int p2), .val (.int p3), .val (.int p4), .val (.int (2 : Int32)), .val (.int (p1 &&& (2147483647 : Int32))), .val (.int (p2 &&& (2147483647 : Int32))), .unset, .unset, .unset, .unset, .unset, .unset, .unset, .unset] [(.int (2147483647 : Int32)), (.int p3)]) _
    refine XS.iand X0.here hx rfl (hb hby at_23) rfl ?_
    show own_S p e below s₁ (mkF m 24 #[.val (.int p1), .val (.int p2), .val (.int p3), .val (.int p4), .val (.int (2 : Int32)), .val (.int (p1 &&& (2147483647 : Int32))), .val (.int (p2 &&& (2147483647 : Int32))), .unset, .unset, .unset, .unset, .unset, .unset, .unset, .unset] [(.int (p3 &&& (2147483647 : Int32)))]) _
    refine XS.istore X0.here hx rfl (hb hby at_24) rfl (l' := #[.val (.int p1), .val (.int p2), .val (.int p3), .val (.int p4), .val (.int (2 : Int32)), .val (.int (p1 &&& (2147483647 : Int32))), .val (.int (p2 &&& (2147483647 : Int32))), .val (.int (p3 &&& (2147483647 : Int32))), .unset, .unset, .unset, .unset, .unset, .unset, .unset]) rfl ?_
    show own_S p e below s₁ (mkF m 26 #[.val (.int p1), .val (.int p2), .val (.int p3), .val (.int p4), .val (.int (2 : Int32)), .val (.int (p1 &&& (2147483647 : Int32))), .val (.int (p2 &&& (2147483647 : Int32))), .val (.int (p3 &&& (2147483647 : Int32))), .unset, .unset, .unset, .unset, .unset, .unset, .unset] []) _
    refine XS.iload X0.here hx rfl (hb hby at_26) rfl ?_
    show own_S p e below s₁ (mkF m 28 #[.val (.int p1), .val (.int p2), .val (.int p3), .val (.int p4), .val (.int (2 : Int32)), .val (.int (p1 &&& (2147483647 : Int32))), .val (.int (p2 &&& (2147483647 : Int32))), .val (.int (p3 &&& (2147483647 : Int32))), .unset, .unset, .unset, .unset, .unset, .unset, .unset] [(.int (2 : Int32))]) _
    refine XS.ifYes X0.here hx rfl (pc0 := 28) (pc' := 38) rfl (hb hby at_28) rfl ((if0 _ _).trans (feq (by decide : ¬ ((2 : Int32) = (0 : Int32)))).2) (by decide) (by decide) ?_
    show own_S p e below s₁ (mkF m 38 #[.val (.int p1), .val (.int p2), .val (.int p3), .val (.int p4), .val (.int (2 : Int32)), .val (.int (p1 &&& (2147483647 : Int32))), .val (.int (p2 &&& (2147483647 : Int32))), .val (.int (p3 &&& (2147483647 : Int32))), .unset, .unset, .unset, .unset, .unset, .unset, .unset] []) _
    refine XS.iload X0.here hx rfl (hb hby at_38) rfl ?_
    show own_S p e below s₁ (mkF m 40 #[.val (.int p1), .val (.int p2), .val (.int p3), .val (.int p4), .val (.int (2 : Int32)), .val (.int (p1 &&& (2147483647 : Int32))), .val (.int (p2 &&& (2147483647 : Int32))), .val (.int (p3 &&& (2147483647 : Int32))), .unset, .unset, .unset, .unset, .unset, .unset, .unset] [(.int (2 : Int32))]) _
    refine XS.iconst X0.here hx rfl (hb hby at_40) ?_
    show own_S p e below s₁ (mkF m 41 #[.val (.int p1), .val (.int p2), .val (.int p3), .val (.int p4), .val (.int (2 : Int32)), .val (.int (p1 &&& (2147483647 : Int32))), .val (.int (p2 &&& (2147483647 : Int32))), .val (.int (p3 &&& (2147483647 : Int32))), .unset, .unset, .unset, .unset, .unset, .unset, .unset] [(.int (1 : Int32)), (.int (2 : Int32))]) _
    refine XS.icmpYes X0.here hx rfl (pc0 := 41) (pc' := 51) rfl (hb hby at_41) rfl (feq (by decide : ¬ ((2 : Int32) = (1 : Int32)))).2 (by decide) (by decide) ?_
    show own_S p e below s₁ (mkF m 51 #[.val (.int p1), .val (.int p2), .val (.int p3), .val (.int p4), .val (.int (2 : Int32)), .val (.int (p1 &&& (2147483647 : Int32))), .val (.int (p2 &&& (2147483647 : Int32))), .val (.int (p3 &&& (2147483647 : Int32))), .unset, .unset, .unset, .unset, .unset, .unset, .unset] []) _
    refine XS.iload X0.here hx rfl (hb hby at_51) rfl ?_
    show own_S p e below s₁ (mkF m 53 #[.val (.int p1), .val (.int p2), .val (.int p3), .val (.int p4), .val (.int (2 : Int32)), .val (.int (p1 &&& (2147483647 : Int32))), .val (.int (p2 &&& (2147483647 : Int32))), .val (.int (p3 &&& (2147483647 : Int32))), .unset, .unset, .unset, .unset, .unset, .unset, .unset] [(.int (2 : Int32))]) _
    refine XS.iconst X0.here hx rfl (hb hby at_53) ?_
    show own_S p e below s₁ (mkF m 54 #[.val (.int p1), .val (.int p2), .val (.int p3), .val (.int p4), .val (.int (2 : Int32)), .val (.int (p1 &&& (2147483647 : Int32))), .val (.int (p2 &&& (2147483647 : Int32))), .val (.int (p3 &&& (2147483647 : Int32))), .unset, .unset, .unset, .unset, .unset, .unset, .unset] [(.int (2 : Int32)), (.int (2 : Int32))]) _
    refine XS.icmpNo X0.here hx rfl (hb hby at_54) rfl (teq (rfl : (2 : Int32) = (2 : Int32))).2 ?_
    show own_S p e below s₁ (mkF m 57 #[.val (.int p1), .val (.int p2), .val (.int p3), .val (.int p4), .val (.int (2 : Int32)), .val (.int (p1 &&& (2147483647 : Int32))), .val (.int (p2 &&& (2147483647 : Int32))), .val (.int (p3 &&& (2147483647 : Int32))), .unset, .unset, .unset, .unset, .unset, .unset, .unset] []) _
    refine XS.iload X0.here hx rfl (hb hby at_57) rfl ?_
    show own_S p e below s₁ (mkF m 59 #[.val (.int p1), .val (.int p2), .val (.int p3), .val (.int p4), .val (.int (2 : Int32)), .val (.int (p1 &&& (2147483647 : Int32))), .val (.int (p2 &&& (2147483647 : Int32))), .val (.int (p3 &&& (2147483647 : Int32))), .unset, .unset, .unset, .unset, .unset, .unset, .unset] [(.int (p3 &&& (2147483647 : Int32)))]) _
    refine X0.ldcInt hx hown (mvT hZ (own_w hw 0 rfl)) (g := (mkF m 59 #[.val (.int p1), .val (.int p2), .val (.int p3), .val (.int p4), .val (.int (2 : Int32)), .val (.int (p1 &&& (2147483647 : Int32))), .val (.int (p2 &&& (2147483647 : Int32))), .val (.int (p3 &&& (2147483647 : Int32))), .unset, .unset, .unset, .unset, .unset, .unset, .unset] [(.int (p3 &&& (2147483647 : Int32)))])) rfl (hb hby at_59) _ ?_
    show own_S p e below s₁ (mkF m 61 #[.val (.int p1), .val (.int p2), .val (.int p3), .val (.int p4), .val (.int (2 : Int32)), .val (.int (p1 &&& (2147483647 : Int32))), .val (.int (p2 &&& (2147483647 : Int32))), .val (.int (p3 &&& (2147483647 : Int32))), .unset, .unset, .unset, .unset, .unset, .unset, .unset] [(.int (2147483647 : Int32)), (.int (p3 &&& (2147483647 : Int32)))]) _
    refine iremM X0 hx rfl (hb hby at_61) rfl (by decide) ?_
    show own_S p e below s₁ (mkF m 62 #[.val (.int p1), .val (.int p2), .val (.int p3), .val (.int p4), .val (.int (2 : Int32)), .val (.int (p1 &&& (2147483647 : Int32))), .val (.int (p2 &&& (2147483647 : Int32))), .val (.int (p3 &&& (2147483647 : Int32))), .unset, .unset, .unset, .unset, .unset, .unset, .unset] [(.int ((p3 &&& (2147483647 : Int32)) % (2147483647 : Int32)))]) _
    refine XS.istore X0.here hx rfl (hb hby at_62) rfl (l' := #[.val (.int p1), .val (.int p2), .val (.int p3), .val (.int p4), .val (.int (2 : Int32)), .val (.int (p1 &&& (2147483647 : Int32))), .val (.int (p2 &&& (2147483647 : Int32))), .val (.int ((p3 &&& (2147483647 : Int32)) % (2147483647 : Int32))), .unset, .unset, .unset, .unset, .unset, .unset, .unset]) rfl ?_
    show own_S p e below s₁ (mkF m 64 #[.val (.int p1), .val (.int p2), .val (.int p3), .val (.int p4), .val (.int (2 : Int32)), .val (.int (p1 &&& (2147483647 : Int32))), .val (.int (p2 &&& (2147483647 : Int32))), .val (.int ((p3 &&& (2147483647 : Int32)) % (2147483647 : Int32))), .unset, .unset, .unset, .unset, .unset, .unset, .unset] []) _
    refine st80 _ ?_
    show own_S p e below T80 (mkF m 67 #[.val (.int p1), .val (.int p2), .val (.int p3), .val (.int p4), .val (.int (2 : Int32)), .val (.int (p1 &&& (2147483647 : Int32))), .val (.int (p2 &&& (2147483647 : Int32))), .val (.int ((p3 &&& (2147483647 : Int32)) % (2147483647 : Int32))), .unset, .unset, .unset, .unset, .unset, .unset, .unset] [(.ref b80)]) _
    refine XS.dup X80.here hx rfl (hb hby at_67) rfl rfl ?_
    show own_S p e below T80 (mkF m 68 #[.val (.int p1), .val (.int p2), .val (.int p3), .val (.int p4), .val (.int (2 : Int32)), .val (.int (p1 &&& (2147483647 : Int32))), .val (.int (p2 &&& (2147483647 : Int32))), .val (.int ((p3 &&& (2147483647 : Int32)) % (2147483647 : Int32))), .unset, .unset, .unset, .unset, .unset, .unset, .unset] [(.ref b80), (.ref b80)]) _
    refine XS.iload X80.here hx rfl (hb hby at_68) rfl ?_
    show own_S p e below T80 (mkF m 70 #[.val (.int p1), .val (.int p2), .val (.int p3), .val (.int p4), .val (.int (2 : Int32)), .val (.int (p1 &&& (2147483647 : Int32))), .val (.int (p2 &&& (2147483647 : Int32))), .val (.int ((p3 &&& (2147483647 : Int32)) % (2147483647 : Int32))), .unset, .unset, .unset, .unset, .unset, .unset, .unset] [(.int (p1 &&& (2147483647 : Int32))), (.ref b80), (.ref b80)]) _
    refine XS.iload X80.here hx rfl (hb hby at_70) rfl ?_
    show own_S p e below T80 (mkF m 72 #[.val (.int p1), .val (.int p2), .val (.int p3), .val (.int p4), .val (.int (2 : Int32)), .val (.int (p1 &&& (2147483647 : Int32))), .val (.int (p2 &&& (2147483647 : Int32))), .val (.int ((p3 &&& (2147483647 : Int32)) % (2147483647 : Int32))), .unset, .unset, .unset, .unset, .unset, .unset, .unset] [(.int (p2 &&& (2147483647 : Int32))), (.int (p1 &&& (2147483647 : Int32))), (.ref b80), (.ref b80)]) _
    refine XS.iload X80.here hx rfl (hb hby at_72) rfl ?_
    show own_S p e below T80 (mkF m 74 #[.val (.int p1), .val (.int p2), .val (.int p3), .val (.int p4), .val (.int (2 : Int32)), .val (.int (p1 &&& (2147483647 : Int32))), .val (.int (p2 &&& (2147483647 : Int32))), .val (.int ((p3 &&& (2147483647 : Int32)) % (2147483647 : Int32))), .unset, .unset, .unset, .unset, .unset, .unset, .unset] [(.int ((p3 &&& (2147483647 : Int32)) % (2147483647 : Int32))), (.int (p2 &&& (2147483647 : Int32))), (.int (p1 &&& (2147483647 : Int32))), (.ref b80), (.ref b80)]) _
    refine st81 _ ?_
    show own_S p e below T81 (mkF m 77 #[.val (.int p1), .val (.int p2), .val (.int p3), .val (.int p4), .val (.int (2 : Int32)), .val (.int (p1 &&& (2147483647 : Int32))), .val (.int (p2 &&& (2147483647 : Int32))), .val (.int ((p3 &&& (2147483647 : Int32)) % (2147483647 : Int32))), .unset, .unset, .unset, .unset, .unset, .unset, .unset] [(.ref b80)]) _
    refine XS.astore X81.here hx rfl (hb hby at_77) rfl rfl (l' := #[.val (.int p1), .val (.int p2), .val (.int p3), .val (.int p4), .val (.int (2 : Int32)), .val (.int (p1 &&& (2147483647 : Int32))), .val (.int (p2 &&& (2147483647 : Int32))), .val (.int ((p3 &&& (2147483647 : Int32)) % (2147483647 : Int32))), .val (.ref b80), .unset, .unset, .unset, .unset, .unset, .unset]) rfl ?_
    show own_S p e below T81 (mkF m 79 #[.val (.int p1), .val (.int p2), .val (.int p3), .val (.int p4), .val (.int (2 : Int32)), .val (.int (p1 &&& (2147483647 : Int32))), .val (.int (p2 &&& (2147483647 : Int32))), .val (.int ((p3 &&& (2147483647 : Int32)) % (2147483647 : Int32))), .val (.ref b80), .unset, .unset, .unset, .unset, .unset, .unset] []) _
    refine XS.aload X81.here hx rfl (hb hby at_79) rfl rfl ?_
    show own_S p e below T81 (mkF m 81 #[.val (.int p1), .val (.int p2), .val (.int p3), .val (.int p4), .val (.int (2 : Int32)), .val (.int (p1 &&& (2147483647 : Int32))), .val (.int (p2 &&& (2147483647 : Int32))), .val (.int ((p3 &&& (2147483647 : Int32)) % (2147483647 : Int32))), .val (.ref b80), .unset, .unset, .unset, .unset, .unset, .unset] [(.ref b80)]) _
    refine XS.iload X81.here hx rfl (hb hby at_81) rfl ?_
    show own_S p e below T81 (mkF m 83 #[.val (.int p1), .val (.int p2), .val (.int p3), .val (.int p4), .val (.int (2 : Int32)), .val (.int (p1 &&& (2147483647 : Int32))), .val (.int (p2 &&& (2147483647 : Int32))), .val (.int ((p3 &&& (2147483647 : Int32)) % (2147483647 : Int32))), .val (.ref b80), .unset, .unset, .unset, .unset, .unset, .unset] [(.int (2 : Int32)), (.ref b80)]) _
    refine st84 _ ?_
    show own_S p e below T84 (mkF m 86 #[.val (.int p1), .val (.int p2), .val (.int p3), .val (.int p4), .val (.int (2 : Int32)), .val (.int (p1 &&& (2147483647 : Int32))), .val (.int (p2 &&& (2147483647 : Int32))), .val (.int ((p3 &&& (2147483647 : Int32)) % (2147483647 : Int32))), .val (.ref b80), .unset, .unset, .unset, .unset, .unset, .unset] [(.ref w_FAILED), (.ref b80)]) _
    refine st98 _ ?_
    show own_S p e below T98 (mkF m 89 #[.val (.int p1), .val (.int p2), .val (.int p3), .val (.int p4), .val (.int (2 : Int32)), .val (.int (p1 &&& (2147483647 : Int32))), .val (.int (p2 &&& (2147483647 : Int32))), .val (.int ((p3 &&& (2147483647 : Int32)) % (2147483647 : Int32))), .val (.ref b80), .unset, .unset, .unset, .unset, .unset, .unset] [(.ref b99)]) _
    refine XS.astore X98.here hx rfl (hb hby at_89) rfl rfl (l' := #[.val (.int p1), .val (.int p2), .val (.int p3), .val (.int p4), .val (.int (2 : Int32)), .val (.int (p1 &&& (2147483647 : Int32))), .val (.int (p2 &&& (2147483647 : Int32))), .val (.int ((p3 &&& (2147483647 : Int32)) % (2147483647 : Int32))), .val (.ref b80), .val (.ref b99), .unset, .unset, .unset, .unset, .unset]) rfl ?_
    show own_S p e below T98 (mkF m 91 #[.val (.int p1), .val (.int p2), .val (.int p3), .val (.int p4), .val (.int (2 : Int32)), .val (.int (p1 &&& (2147483647 : Int32))), .val (.int (p2 &&& (2147483647 : Int32))), .val (.int ((p3 &&& (2147483647 : Int32)) % (2147483647 : Int32))), .val (.ref b80), .val (.ref b99), .unset, .unset, .unset, .unset, .unset] []) _
    refine XS.iload X98.here hx rfl (hb hby at_91) rfl ?_
    show own_S p e below T98 (mkF m 93 #[.val (.int p1), .val (.int p2), .val (.int p3), .val (.int p4), .val (.int (2 : Int32)), .val (.int (p1 &&& (2147483647 : Int32))), .val (.int (p2 &&& (2147483647 : Int32))), .val (.int ((p3 &&& (2147483647 : Int32)) % (2147483647 : Int32))), .val (.ref b80), .val (.ref b99), .unset, .unset, .unset, .unset, .unset] [(.int (p1 &&& (2147483647 : Int32)))]) _
    refine XS.istore X98.here hx rfl (hb hby at_93) rfl (l' := #[.val (.int p1), .val (.int p2), .val (.int p3), .val (.int p4), .val (.int (2 : Int32)), .val (.int (p1 &&& (2147483647 : Int32))), .val (.int (p2 &&& (2147483647 : Int32))), .val (.int ((p3 &&& (2147483647 : Int32)) % (2147483647 : Int32))), .val (.ref b80), .val (.ref b99), .val (.int (p1 &&& (2147483647 : Int32))), .unset, .unset, .unset, .unset]) rfl ?_
    show own_S p e below T98 (mkF m 95 #[.val (.int p1), .val (.int p2), .val (.int p3), .val (.int p4), .val (.int (2 : Int32)), .val (.int (p1 &&& (2147483647 : Int32))), .val (.int (p2 &&& (2147483647 : Int32))), .val (.int ((p3 &&& (2147483647 : Int32)) % (2147483647 : Int32))), .val (.ref b80), .val (.ref b99), .val (.int (p1 &&& (2147483647 : Int32))), .unset, .unset, .unset, .unset] []) _
    refine XS.iload X98.here hx rfl (hb hby at_95) rfl ?_
    show own_S p e below T98 (mkF m 97 #[.val (.int p1), .val (.int p2), .val (.int p3), .val (.int p4), .val (.int (2 : Int32)), .val (.int (p1 &&& (2147483647 : Int32))), .val (.int (p2 &&& (2147483647 : Int32))), .val (.int ((p3 &&& (2147483647 : Int32)) % (2147483647 : Int32))), .val (.ref b80), .val (.ref b99), .val (.int (p1 &&& (2147483647 : Int32))), .unset, .unset, .unset, .unset] [(.int (p2 &&& (2147483647 : Int32)))]) _
    refine XS.istore X98.here hx rfl (hb hby at_97) rfl (l' := #[.val (.int p1), .val (.int p2), .val (.int p3), .val (.int p4), .val (.int (2 : Int32)), .val (.int (p1 &&& (2147483647 : Int32))), .val (.int (p2 &&& (2147483647 : Int32))), .val (.int ((p3 &&& (2147483647 : Int32)) % (2147483647 : Int32))), .val (.ref b80), .val (.ref b99), .val (.int (p1 &&& (2147483647 : Int32))), .val (.int (p2 &&& (2147483647 : Int32))), .unset, .unset, .unset]) rfl ?_
    show own_S p e below T98 (mkF m 99 #[.val (.int p1), .val (.int p2), .val (.int p3), .val (.int p4), .val (.int (2 : Int32)), .val (.int (p1 &&& (2147483647 : Int32))), .val (.int (p2 &&& (2147483647 : Int32))), .val (.int ((p3 &&& (2147483647 : Int32)) % (2147483647 : Int32))), .val (.ref b80), .val (.ref b99), .val (.int (p1 &&& (2147483647 : Int32))), .val (.int (p2 &&& (2147483647 : Int32))), .unset, .unset, .unset] []) _
    refine XS.iload X98.here hx rfl (hb hby at_99) rfl ?_
    show own_S p e below T98 (mkF m 101 #[.val (.int p1), .val (.int p2), .val (.int p3), .val (.int p4), .val (.int (2 : Int32)), .val (.int (p1 &&& (2147483647 : Int32))), .val (.int (p2 &&& (2147483647 : Int32))), .val (.int ((p3 &&& (2147483647 : Int32)) % (2147483647 : Int32))), .val (.ref b80), .val (.ref b99), .val (.int (p1 &&& (2147483647 : Int32))), .val (.int (p2 &&& (2147483647 : Int32))), .unset, .unset, .unset] [(.int ((p3 &&& (2147483647 : Int32)) % (2147483647 : Int32)))]) _
    refine XS.istore X98.here hx rfl (hb hby at_101) rfl (l' := #[.val (.int p1), .val (.int p2), .val (.int p3), .val (.int p4), .val (.int (2 : Int32)), .val (.int (p1 &&& (2147483647 : Int32))), .val (.int (p2 &&& (2147483647 : Int32))), .val (.int ((p3 &&& (2147483647 : Int32)) % (2147483647 : Int32))), .val (.ref b80), .val (.ref b99), .val (.int (p1 &&& (2147483647 : Int32))), .val (.int (p2 &&& (2147483647 : Int32))), .val (.int ((p3 &&& (2147483647 : Int32)) % (2147483647 : Int32))), .unset, .unset]) rfl ?_
    show own_S p e below T98 (mkF m 103 #[.val (.int p1), .val (.int p2), .val (.int p3), .val (.int p4), .val (.int (2 : Int32)), .val (.int (p1 &&& (2147483647 : Int32))), .val (.int (p2 &&& (2147483647 : Int32))), .val (.int ((p3 &&& (2147483647 : Int32)) % (2147483647 : Int32))), .val (.ref b80), .val (.ref b99), .val (.int (p1 &&& (2147483647 : Int32))), .val (.int (p2 &&& (2147483647 : Int32))), .val (.int ((p3 &&& (2147483647 : Int32)) % (2147483647 : Int32))), .unset, .unset] []) _
    refine XS.iload X98.here hx rfl (hb hby at_103) rfl ?_
    show own_S p e below T98 (mkF m 105 #[.val (.int p1), .val (.int p2), .val (.int p3), .val (.int p4), .val (.int (2 : Int32)), .val (.int (p1 &&& (2147483647 : Int32))), .val (.int (p2 &&& (2147483647 : Int32))), .val (.int ((p3 &&& (2147483647 : Int32)) % (2147483647 : Int32))), .val (.ref b80), .val (.ref b99), .val (.int (p1 &&& (2147483647 : Int32))), .val (.int (p2 &&& (2147483647 : Int32))), .val (.int ((p3 &&& (2147483647 : Int32)) % (2147483647 : Int32))), .unset, .unset] [(.int (2 : Int32))]) _
    refine XS.ifYes X98.here hx rfl (pc0 := 105) (pc' := 114) rfl (hb hby at_105) rfl ((if0 _ _).trans (feq (by decide : ¬ ((2 : Int32) = (0 : Int32)))).2) (by decide) (by decide) ?_
    show own_S p e below T98 (mkF m 114 #[.val (.int p1), .val (.int p2), .val (.int p3), .val (.int p4), .val (.int (2 : Int32)), .val (.int (p1 &&& (2147483647 : Int32))), .val (.int (p2 &&& (2147483647 : Int32))), .val (.int ((p3 &&& (2147483647 : Int32)) % (2147483647 : Int32))), .val (.ref b80), .val (.ref b99), .val (.int (p1 &&& (2147483647 : Int32))), .val (.int (p2 &&& (2147483647 : Int32))), .val (.int ((p3 &&& (2147483647 : Int32)) % (2147483647 : Int32))), .unset, .unset] []) _
    refine XS.iload X98.here hx rfl (hb hby at_114) rfl ?_
    show own_S p e below T98 (mkF m 116 #[.val (.int p1), .val (.int p2), .val (.int p3), .val (.int p4), .val (.int (2 : Int32)), .val (.int (p1 &&& (2147483647 : Int32))), .val (.int (p2 &&& (2147483647 : Int32))), .val (.int ((p3 &&& (2147483647 : Int32)) % (2147483647 : Int32))), .val (.ref b80), .val (.ref b99), .val (.int (p1 &&& (2147483647 : Int32))), .val (.int (p2 &&& (2147483647 : Int32))), .val (.int ((p3 &&& (2147483647 : Int32)) % (2147483647 : Int32))), .unset, .unset] [(.int (2 : Int32))]) _
    refine XS.iconst X98.here hx rfl (hb hby at_116) ?_
    show own_S p e below T98 (mkF m 117 #[.val (.int p1), .val (.int p2), .val (.int p3), .val (.int p4), .val (.int (2 : Int32)), .val (.int (p1 &&& (2147483647 : Int32))), .val (.int (p2 &&& (2147483647 : Int32))), .val (.int ((p3 &&& (2147483647 : Int32)) % (2147483647 : Int32))), .val (.ref b80), .val (.ref b99), .val (.int (p1 &&& (2147483647 : Int32))), .val (.int (p2 &&& (2147483647 : Int32))), .val (.int ((p3 &&& (2147483647 : Int32)) % (2147483647 : Int32))), .unset, .unset] [(.int (1 : Int32)), (.int (2 : Int32))]) _
    refine XS.icmpYes X98.here hx rfl (pc0 := 117) (pc' := 126) rfl (hb hby at_117) rfl (feq (by decide : ¬ ((2 : Int32) = (1 : Int32)))).2 (by decide) (by decide) ?_
    show own_S p e below T98 (mkF m 126 #[.val (.int p1), .val (.int p2), .val (.int p3), .val (.int p4), .val (.int (2 : Int32)), .val (.int (p1 &&& (2147483647 : Int32))), .val (.int (p2 &&& (2147483647 : Int32))), .val (.int ((p3 &&& (2147483647 : Int32)) % (2147483647 : Int32))), .val (.ref b80), .val (.ref b99), .val (.int (p1 &&& (2147483647 : Int32))), .val (.int (p2 &&& (2147483647 : Int32))), .val (.int ((p3 &&& (2147483647 : Int32)) % (2147483647 : Int32))), .unset, .unset] []) _
    refine XS.iload X98.here hx rfl (hb hby at_126) rfl ?_
    show own_S p e below T98 (mkF m 128 #[.val (.int p1), .val (.int p2), .val (.int p3), .val (.int p4), .val (.int (2 : Int32)), .val (.int (p1 &&& (2147483647 : Int32))), .val (.int (p2 &&& (2147483647 : Int32))), .val (.int ((p3 &&& (2147483647 : Int32)) % (2147483647 : Int32))), .val (.ref b80), .val (.ref b99), .val (.int (p1 &&& (2147483647 : Int32))), .val (.int (p2 &&& (2147483647 : Int32))), .val (.int ((p3 &&& (2147483647 : Int32)) % (2147483647 : Int32))), .unset, .unset] [(.int (2 : Int32))]) _
    refine XS.iconst X98.here hx rfl (hb hby at_128) ?_
    show own_S p e below T98 (mkF m 129 #[.val (.int p1), .val (.int p2), .val (.int p3), .val (.int p4), .val (.int (2 : Int32)), .val (.int (p1 &&& (2147483647 : Int32))), .val (.int (p2 &&& (2147483647 : Int32))), .val (.int ((p3 &&& (2147483647 : Int32)) % (2147483647 : Int32))), .val (.ref b80), .val (.ref b99), .val (.int (p1 &&& (2147483647 : Int32))), .val (.int (p2 &&& (2147483647 : Int32))), .val (.int ((p3 &&& (2147483647 : Int32)) % (2147483647 : Int32))), .unset, .unset] [(.int (2 : Int32)), (.int (2 : Int32))]) _
    refine XS.icmpNo X98.here hx rfl (hb hby at_129) rfl (teq (rfl : (2 : Int32) = (2 : Int32))).2 ?_
    show own_S p e below T98 (mkF m 132 #[.val (.int p1), .val (.int p2), .val (.int p3), .val (.int p4), .val (.int (2 : Int32)), .val (.int (p1 &&& (2147483647 : Int32))), .val (.int (p2 &&& (2147483647 : Int32))), .val (.int ((p3 &&& (2147483647 : Int32)) % (2147483647 : Int32))), .val (.ref b80), .val (.ref b99), .val (.int (p1 &&& (2147483647 : Int32))), .val (.int (p2 &&& (2147483647 : Int32))), .val (.int ((p3 &&& (2147483647 : Int32)) % (2147483647 : Int32))), .unset, .unset] []) _
    refine XS.iload X98.here hx rfl (hb hby at_132) rfl ?_
    show own_S p e below T98 (mkF m 134 #[.val (.int p1), .val (.int p2), .val (.int p3), .val (.int p4), .val (.int (2 : Int32)), .val (.int (p1 &&& (2147483647 : Int32))), .val (.int (p2 &&& (2147483647 : Int32))), .val (.int ((p3 &&& (2147483647 : Int32)) % (2147483647 : Int32))), .val (.ref b80), .val (.ref b99), .val (.int (p1 &&& (2147483647 : Int32))), .val (.int (p2 &&& (2147483647 : Int32))), .val (.int ((p3 &&& (2147483647 : Int32)) % (2147483647 : Int32))), .unset, .unset] [(.int ((p3 &&& (2147483647 : Int32)) % (2147483647 : Int32)))]) _
    refine XS.iconst X98.here hx rfl (hb hby at_134) ?_
    show own_S p e below T98 (mkF m 135 #[.val (.int p1), .val (.int p2), .val (.int p3), .val (.int p4), .val (.int (2 : Int32)), .val (.int (p1 &&& (2147483647 : Int32))), .val (.int (p2 &&& (2147483647 : Int32))), .val (.int ((p3 &&& (2147483647 : Int32)) % (2147483647 : Int32))), .val (.ref b80), .val (.ref b99), .val (.int (p1 &&& (2147483647 : Int32))), .val (.int (p2 &&& (2147483647 : Int32))), .val (.int ((p3 &&& (2147483647 : Int32)) % (2147483647 : Int32))), .unset, .unset] [(.int (1 : Int32)), (.int ((p3 &&& (2147483647 : Int32)) % (2147483647 : Int32)))]) _
    refine XS.iadd X98.here hx rfl (hb hby at_135) rfl ?_
    show own_S p e below T98 (mkF m 136 #[.val (.int p1), .val (.int p2), .val (.int p3), .val (.int p4), .val (.int (2 : Int32)), .val (.int (p1 &&& (2147483647 : Int32))), .val (.int (p2 &&& (2147483647 : Int32))), .val (.int ((p3 &&& (2147483647 : Int32)) % (2147483647 : Int32))), .val (.ref b80), .val (.ref b99), .val (.int (p1 &&& (2147483647 : Int32))), .val (.int (p2 &&& (2147483647 : Int32))), .val (.int ((p3 &&& (2147483647 : Int32)) % (2147483647 : Int32))), .unset, .unset] [(.int (((p3 &&& (2147483647 : Int32)) % (2147483647 : Int32)) + (1 : Int32)))]) _
    refine XS.istore X98.here hx rfl (hb hby at_136) rfl (l' := #[.val (.int p1), .val (.int p2), .val (.int p3), .val (.int p4), .val (.int (2 : Int32)), .val (.int (p1 &&& (2147483647 : Int32))), .val (.int (p2 &&& (2147483647 : Int32))), .val (.int ((p3 &&& (2147483647 : Int32)) % (2147483647 : Int32))), .val (.ref b80), .val (.ref b99), .val (.int (p1 &&& (2147483647 : Int32))), .val (.int (p2 &&& (2147483647 : Int32))), .val (.int (((p3 &&& (2147483647 : Int32)) % (2147483647 : Int32)) + (1 : Int32))), .unset, .unset]) rfl ?_
    show own_S p e below T98 (mkF m 138 #[.val (.int p1), .val (.int p2), .val (.int p3), .val (.int p4), .val (.int (2 : Int32)), .val (.int (p1 &&& (2147483647 : Int32))), .val (.int (p2 &&& (2147483647 : Int32))), .val (.int ((p3 &&& (2147483647 : Int32)) % (2147483647 : Int32))), .val (.ref b80), .val (.ref b99), .val (.int (p1 &&& (2147483647 : Int32))), .val (.int (p2 &&& (2147483647 : Int32))), .val (.int (((p3 &&& (2147483647 : Int32)) % (2147483647 : Int32)) + (1 : Int32))), .unset, .unset] []) _
    refine XS.aload X98.here hx rfl (hb hby at_138) rfl rfl ?_
    show own_S p e below T98 (mkF m 140 #[.val (.int p1), .val (.int p2), .val (.int p3), .val (.int p4), .val (.int (2 : Int32)), .val (.int (p1 &&& (2147483647 : Int32))), .val (.int (p2 &&& (2147483647 : Int32))), .val (.int ((p3 &&& (2147483647 : Int32)) % (2147483647 : Int32))), .val (.ref b80), .val (.ref b99), .val (.int (p1 &&& (2147483647 : Int32))), .val (.int (p2 &&& (2147483647 : Int32))), .val (.int (((p3 &&& (2147483647 : Int32)) % (2147483647 : Int32)) + (1 : Int32))), .unset, .unset] [(.ref b99)]) _
    refine st100 _ ?_
    show own_S p e below T100 (mkF m 143 #[.val (.int p1), .val (.int p2), .val (.int p3), .val (.int p4), .val (.int (2 : Int32)), .val (.int (p1 &&& (2147483647 : Int32))), .val (.int (p2 &&& (2147483647 : Int32))), .val (.int ((p3 &&& (2147483647 : Int32)) % (2147483647 : Int32))), .val (.ref b80), .val (.ref b99), .val (.int (p1 &&& (2147483647 : Int32))), .val (.int (p2 &&& (2147483647 : Int32))), .val (.int (((p3 &&& (2147483647 : Int32)) % (2147483647 : Int32)) + (1 : Int32))), .unset, .unset] [(.int (p1 &&& (2147483647 : Int32)))]) _
    refine XS.iload X100.here hx rfl (hb hby at_143) rfl ?_
    show own_S p e below T100 (mkF m 145 #[.val (.int p1), .val (.int p2), .val (.int p3), .val (.int p4), .val (.int (2 : Int32)), .val (.int (p1 &&& (2147483647 : Int32))), .val (.int (p2 &&& (2147483647 : Int32))), .val (.int ((p3 &&& (2147483647 : Int32)) % (2147483647 : Int32))), .val (.ref b80), .val (.ref b99), .val (.int (p1 &&& (2147483647 : Int32))), .val (.int (p2 &&& (2147483647 : Int32))), .val (.int (((p3 &&& (2147483647 : Int32)) % (2147483647 : Int32)) + (1 : Int32))), .unset, .unset] [(.int (p1 &&& (2147483647 : Int32))), (.int (p1 &&& (2147483647 : Int32)))]) _
    refine XS.icmpNo X100.here hx rfl (hb hby at_145) rfl (teq (rfl : (p1 &&& (2147483647 : Int32)) = (p1 &&& (2147483647 : Int32)))).2 ?_
    show own_S p e below T100 (mkF m 148 #[.val (.int p1), .val (.int p2), .val (.int p3), .val (.int p4), .val (.int (2 : Int32)), .val (.int (p1 &&& (2147483647 : Int32))), .val (.int (p2 &&& (2147483647 : Int32))), .val (.int ((p3 &&& (2147483647 : Int32)) % (2147483647 : Int32))), .val (.ref b80), .val (.ref b99), .val (.int (p1 &&& (2147483647 : Int32))), .val (.int (p2 &&& (2147483647 : Int32))), .val (.int (((p3 &&& (2147483647 : Int32)) % (2147483647 : Int32)) + (1 : Int32))), .unset, .unset] []) _
    refine XS.aload X100.here hx rfl (hb hby at_148) rfl rfl ?_
    show own_S p e below T100 (mkF m 150 #[.val (.int p1), .val (.int p2), .val (.int p3), .val (.int p4), .val (.int (2 : Int32)), .val (.int (p1 &&& (2147483647 : Int32))), .val (.int (p2 &&& (2147483647 : Int32))), .val (.int ((p3 &&& (2147483647 : Int32)) % (2147483647 : Int32))), .val (.ref b80), .val (.ref b99), .val (.int (p1 &&& (2147483647 : Int32))), .val (.int (p2 &&& (2147483647 : Int32))), .val (.int (((p3 &&& (2147483647 : Int32)) % (2147483647 : Int32)) + (1 : Int32))), .unset, .unset] [(.ref b99)]) _
    refine st101 _ ?_
    show own_S p e below T101 (mkF m 153 #[.val (.int p1), .val (.int p2), .val (.int p3), .val (.int p4), .val (.int (2 : Int32)), .val (.int (p1 &&& (2147483647 : Int32))), .val (.int (p2 &&& (2147483647 : Int32))), .val (.int ((p3 &&& (2147483647 : Int32)) % (2147483647 : Int32))), .val (.ref b80), .val (.ref b99), .val (.int (p1 &&& (2147483647 : Int32))), .val (.int (p2 &&& (2147483647 : Int32))), .val (.int (((p3 &&& (2147483647 : Int32)) % (2147483647 : Int32)) + (1 : Int32))), .unset, .unset] [(.int (p2 &&& (2147483647 : Int32)))]) _
    refine XS.iload X101.here hx rfl (hb hby at_153) rfl ?_
    show own_S p e below T101 (mkF m 155 #[.val (.int p1), .val (.int p2), .val (.int p3), .val (.int p4), .val (.int (2 : Int32)), .val (.int (p1 &&& (2147483647 : Int32))), .val (.int (p2 &&& (2147483647 : Int32))), .val (.int ((p3 &&& (2147483647 : Int32)) % (2147483647 : Int32))), .val (.ref b80), .val (.ref b99), .val (.int (p1 &&& (2147483647 : Int32))), .val (.int (p2 &&& (2147483647 : Int32))), .val (.int (((p3 &&& (2147483647 : Int32)) % (2147483647 : Int32)) + (1 : Int32))), .unset, .unset] [(.int (p2 &&& (2147483647 : Int32))), (.int (p2 &&& (2147483647 : Int32)))]) _
    refine XS.icmpNo X101.here hx rfl (hb hby at_155) rfl (teq (rfl : (p2 &&& (2147483647 : Int32)) = (p2 &&& (2147483647 : Int32)))).2 ?_
    show own_S p e below T101 (mkF m 158 #[.val (.int p1), .val (.int p2), .val (.int p3), .val (.int p4), .val (.int (2 : Int32)), .val (.int (p1 &&& (2147483647 : Int32))), .val (.int (p2 &&& (2147483647 : Int32))), .val (.int ((p3 &&& (2147483647 : Int32)) % (2147483647 : Int32))), .val (.ref b80), .val (.ref b99), .val (.int (p1 &&& (2147483647 : Int32))), .val (.int (p2 &&& (2147483647 : Int32))), .val (.int (((p3 &&& (2147483647 : Int32)) % (2147483647 : Int32)) + (1 : Int32))), .unset, .unset] []) _
    refine XS.aload X101.here hx rfl (hb hby at_158) rfl rfl ?_
    show own_S p e below T101 (mkF m 160 #[.val (.int p1), .val (.int p2), .val (.int p3), .val (.int p4), .val (.int (2 : Int32)), .val (.int (p1 &&& (2147483647 : Int32))), .val (.int (p2 &&& (2147483647 : Int32))), .val (.int ((p3 &&& (2147483647 : Int32)) % (2147483647 : Int32))), .val (.ref b80), .val (.ref b99), .val (.int (p1 &&& (2147483647 : Int32))), .val (.int (p2 &&& (2147483647 : Int32))), .val (.int (((p3 &&& (2147483647 : Int32)) % (2147483647 : Int32)) + (1 : Int32))), .unset, .unset] [(.ref b99)]) _
    refine st102 _ ?_
    show own_S p e below T102 (mkF m 163 #[.val (.int p1), .val (.int p2), .val (.int p3), .val (.int p4), .val (.int (2 : Int32)), .val (.int (p1 &&& (2147483647 : Int32))), .val (.int (p2 &&& (2147483647 : Int32))), .val (.int ((p3 &&& (2147483647 : Int32)) % (2147483647 : Int32))), .val (.ref b80), .val (.ref b99), .val (.int (p1 &&& (2147483647 : Int32))), .val (.int (p2 &&& (2147483647 : Int32))), .val (.int (((p3 &&& (2147483647 : Int32)) % (2147483647 : Int32)) + (1 : Int32))), .unset, .unset] [(.int (((p3 &&& (2147483647 : Int32)) % (2147483647 : Int32)) + (1 : Int32)))]) _
    refine XS.iload X102.here hx rfl (hb hby at_163) rfl ?_
    show own_S p e below T102 (mkF m 165 #[.val (.int p1), .val (.int p2), .val (.int p3), .val (.int p4), .val (.int (2 : Int32)), .val (.int (p1 &&& (2147483647 : Int32))), .val (.int (p2 &&& (2147483647 : Int32))), .val (.int ((p3 &&& (2147483647 : Int32)) % (2147483647 : Int32))), .val (.ref b80), .val (.ref b99), .val (.int (p1 &&& (2147483647 : Int32))), .val (.int (p2 &&& (2147483647 : Int32))), .val (.int (((p3 &&& (2147483647 : Int32)) % (2147483647 : Int32)) + (1 : Int32))), .unset, .unset] [(.int (((p3 &&& (2147483647 : Int32)) % (2147483647 : Int32)) + (1 : Int32))), (.int (((p3 &&& (2147483647 : Int32)) % (2147483647 : Int32)) + (1 : Int32)))]) _
    refine XS.icmpNo X102.here hx rfl (hb hby at_165) rfl (teq (rfl : (((p3 &&& (2147483647 : Int32)) % (2147483647 : Int32)) + (1 : Int32)) = (((p3 &&& (2147483647 : Int32)) % (2147483647 : Int32)) + (1 : Int32)))).2 ?_
    show own_S p e below T102 (mkF m 168 #[.val (.int p1), .val (.int p2), .val (.int p3), .val (.int p4), .val (.int (2 : Int32)), .val (.int (p1 &&& (2147483647 : Int32))), .val (.int (p2 &&& (2147483647 : Int32))), .val (.int ((p3 &&& (2147483647 : Int32)) % (2147483647 : Int32))), .val (.ref b80), .val (.ref b99), .val (.int (p1 &&& (2147483647 : Int32))), .val (.int (p2 &&& (2147483647 : Int32))), .val (.int (((p3 &&& (2147483647 : Int32)) % (2147483647 : Int32)) + (1 : Int32))), .unset, .unset] []) _
    refine XS.iconst X102.here hx rfl (hb hby at_168) ?_
    show own_S p e below T102 (mkF m 169 #[.val (.int p1), .val (.int p2), .val (.int p3), .val (.int p4), .val (.int (2 : Int32)), .val (.int (p1 &&& (2147483647 : Int32))), .val (.int (p2 &&& (2147483647 : Int32))), .val (.int ((p3 &&& (2147483647 : Int32)) % (2147483647 : Int32))), .val (.ref b80), .val (.ref b99), .val (.int (p1 &&& (2147483647 : Int32))), .val (.int (p2 &&& (2147483647 : Int32))), .val (.int (((p3 &&& (2147483647 : Int32)) % (2147483647 : Int32)) + (1 : Int32))), .unset, .unset] [(.int (1 : Int32))]) _
    refine XS.goto X102.here hx rfl (pc0 := 169) (pc' := 173) rfl (hb hby at_169) (by decide) (by decide) ?_
    show own_S p e below T102 (mkF m 173 #[.val (.int p1), .val (.int p2), .val (.int p3), .val (.int p4), .val (.int (2 : Int32)), .val (.int (p1 &&& (2147483647 : Int32))), .val (.int (p2 &&& (2147483647 : Int32))), .val (.int ((p3 &&& (2147483647 : Int32)) % (2147483647 : Int32))), .val (.ref b80), .val (.ref b99), .val (.int (p1 &&& (2147483647 : Int32))), .val (.int (p2 &&& (2147483647 : Int32))), .val (.int (((p3 &&& (2147483647 : Int32)) % (2147483647 : Int32)) + (1 : Int32))), .unset, .unset] [(.int (1 : Int32))]) _
    refine XS.istore X102.here hx rfl (hb hby at_173) rfl (l' := #[.val (.int p1), .val (.int p2), .val (.int p3), .val (.int p4), .val (.int (2 : Int32)), .val (.int (p1 &&& (2147483647 : Int32))), .val (.int (p2 &&& (2147483647 : Int32))), .val (.int ((p3 &&& (2147483647 : Int32)) % (2147483647 : Int32))), .val (.ref b80), .val (.ref b99), .val (.int (p1 &&& (2147483647 : Int32))), .val (.int (p2 &&& (2147483647 : Int32))), .val (.int (((p3 &&& (2147483647 : Int32)) % (2147483647 : Int32)) + (1 : Int32))), .val (.int (1 : Int32)), .unset]) rfl ?_
    show own_S p e below T102 (mkF m 175 #[.val (.int p1), .val (.int p2), .val (.int p3), .val (.int p4), .val (.int (2 : Int32)), .val (.int (p1 &&& (2147483647 : Int32))), .val (.int (p2 &&& (2147483647 : Int32))), .val (.int ((p3 &&& (2147483647 : Int32)) % (2147483647 : Int32))), .val (.ref b80), .val (.ref b99), .val (.int (p1 &&& (2147483647 : Int32))), .val (.int (p2 &&& (2147483647 : Int32))), .val (.int (((p3 &&& (2147483647 : Int32)) % (2147483647 : Int32)) + (1 : Int32))), .val (.int (1 : Int32)), .unset] []) _
    refine XS.aload X102.here hx rfl (hb hby at_175) rfl rfl ?_
    show own_S p e below T102 (mkF m 177 #[.val (.int p1), .val (.int p2), .val (.int p3), .val (.int p4), .val (.int (2 : Int32)), .val (.int (p1 &&& (2147483647 : Int32))), .val (.int (p2 &&& (2147483647 : Int32))), .val (.int ((p3 &&& (2147483647 : Int32)) % (2147483647 : Int32))), .val (.ref b80), .val (.ref b99), .val (.int (p1 &&& (2147483647 : Int32))), .val (.int (p2 &&& (2147483647 : Int32))), .val (.int (((p3 &&& (2147483647 : Int32)) % (2147483647 : Int32)) + (1 : Int32))), .val (.int (1 : Int32)), .unset] [(.ref b80)]) _
    refine st103 _ ?_
    show own_S p e below T103 (mkF m 180 #[.val (.int p1), .val (.int p2), .val (.int p3), .val (.int p4), .val (.int (2 : Int32)), .val (.int (p1 &&& (2147483647 : Int32))), .val (.int (p2 &&& (2147483647 : Int32))), .val (.int ((p3 &&& (2147483647 : Int32)) % (2147483647 : Int32))), .val (.ref b80), .val (.ref b99), .val (.int (p1 &&& (2147483647 : Int32))), .val (.int (p2 &&& (2147483647 : Int32))), .val (.int (((p3 &&& (2147483647 : Int32)) % (2147483647 : Int32)) + (1 : Int32))), .val (.int (1 : Int32)), .unset] [(.int (p1 &&& (2147483647 : Int32)))]) _
    refine XS.iload X103.here hx rfl (hb hby at_180) rfl ?_
    show own_S p e below T103 (mkF m 182 #[.val (.int p1), .val (.int p2), .val (.int p3), .val (.int p4), .val (.int (2 : Int32)), .val (.int (p1 &&& (2147483647 : Int32))), .val (.int (p2 &&& (2147483647 : Int32))), .val (.int ((p3 &&& (2147483647 : Int32)) % (2147483647 : Int32))), .val (.ref b80), .val (.ref b99), .val (.int (p1 &&& (2147483647 : Int32))), .val (.int (p2 &&& (2147483647 : Int32))), .val (.int (((p3 &&& (2147483647 : Int32)) % (2147483647 : Int32)) + (1 : Int32))), .val (.int (1 : Int32)), .unset] [(.int (p1 &&& (2147483647 : Int32))), (.int (p1 &&& (2147483647 : Int32)))]) _
    refine XS.icmpNo X103.here hx rfl (hb hby at_182) rfl (teq (rfl : (p1 &&& (2147483647 : Int32)) = (p1 &&& (2147483647 : Int32)))).2 ?_
    show own_S p e below T103 (mkF m 185 #[.val (.int p1), .val (.int p2), .val (.int p3), .val (.int p4), .val (.int (2 : Int32)), .val (.int (p1 &&& (2147483647 : Int32))), .val (.int (p2 &&& (2147483647 : Int32))), .val (.int ((p3 &&& (2147483647 : Int32)) % (2147483647 : Int32))), .val (.ref b80), .val (.ref b99), .val (.int (p1 &&& (2147483647 : Int32))), .val (.int (p2 &&& (2147483647 : Int32))), .val (.int (((p3 &&& (2147483647 : Int32)) % (2147483647 : Int32)) + (1 : Int32))), .val (.int (1 : Int32)), .unset] []) _
    refine XS.aload X103.here hx rfl (hb hby at_185) rfl rfl ?_
    show own_S p e below T103 (mkF m 187 #[.val (.int p1), .val (.int p2), .val (.int p3), .val (.int p4), .val (.int (2 : Int32)), .val (.int (p1 &&& (2147483647 : Int32))), .val (.int (p2 &&& (2147483647 : Int32))), .val (.int ((p3 &&& (2147483647 : Int32)) % (2147483647 : Int32))), .val (.ref b80), .val (.ref b99), .val (.int (p1 &&& (2147483647 : Int32))), .val (.int (p2 &&& (2147483647 : Int32))), .val (.int (((p3 &&& (2147483647 : Int32)) % (2147483647 : Int32)) + (1 : Int32))), .val (.int (1 : Int32)), .unset] [(.ref b80)]) _
    refine st104 _ ?_
    show own_S p e below T104 (mkF m 190 #[.val (.int p1), .val (.int p2), .val (.int p3), .val (.int p4), .val (.int (2 : Int32)), .val (.int (p1 &&& (2147483647 : Int32))), .val (.int (p2 &&& (2147483647 : Int32))), .val (.int ((p3 &&& (2147483647 : Int32)) % (2147483647 : Int32))), .val (.ref b80), .val (.ref b99), .val (.int (p1 &&& (2147483647 : Int32))), .val (.int (p2 &&& (2147483647 : Int32))), .val (.int (((p3 &&& (2147483647 : Int32)) % (2147483647 : Int32)) + (1 : Int32))), .val (.int (1 : Int32)), .unset] [(.int (p2 &&& (2147483647 : Int32)))]) _
    refine XS.iload X104.here hx rfl (hb hby at_190) rfl ?_
    show own_S p e below T104 (mkF m 192 #[.val (.int p1), .val (.int p2), .val (.int p3), .val (.int p4), .val (.int (2 : Int32)), .val (.int (p1 &&& (2147483647 : Int32))), .val (.int (p2 &&& (2147483647 : Int32))), .val (.int ((p3 &&& (2147483647 : Int32)) % (2147483647 : Int32))), .val (.ref b80), .val (.ref b99), .val (.int (p1 &&& (2147483647 : Int32))), .val (.int (p2 &&& (2147483647 : Int32))), .val (.int (((p3 &&& (2147483647 : Int32)) % (2147483647 : Int32)) + (1 : Int32))), .val (.int (1 : Int32)), .unset] [(.int (p2 &&& (2147483647 : Int32))), (.int (p2 &&& (2147483647 : Int32)))]) _
    refine XS.icmpNo X104.here hx rfl (hb hby at_192) rfl (teq (rfl : (p2 &&& (2147483647 : Int32)) = (p2 &&& (2147483647 : Int32)))).2 ?_
    show own_S p e below T104 (mkF m 195 #[.val (.int p1), .val (.int p2), .val (.int p3), .val (.int p4), .val (.int (2 : Int32)), .val (.int (p1 &&& (2147483647 : Int32))), .val (.int (p2 &&& (2147483647 : Int32))), .val (.int ((p3 &&& (2147483647 : Int32)) % (2147483647 : Int32))), .val (.ref b80), .val (.ref b99), .val (.int (p1 &&& (2147483647 : Int32))), .val (.int (p2 &&& (2147483647 : Int32))), .val (.int (((p3 &&& (2147483647 : Int32)) % (2147483647 : Int32)) + (1 : Int32))), .val (.int (1 : Int32)), .unset] []) _
    refine XS.aload X104.here hx rfl (hb hby at_195) rfl rfl ?_
    show own_S p e below T104 (mkF m 197 #[.val (.int p1), .val (.int p2), .val (.int p3), .val (.int p4), .val (.int (2 : Int32)), .val (.int (p1 &&& (2147483647 : Int32))), .val (.int (p2 &&& (2147483647 : Int32))), .val (.int ((p3 &&& (2147483647 : Int32)) % (2147483647 : Int32))), .val (.ref b80), .val (.ref b99), .val (.int (p1 &&& (2147483647 : Int32))), .val (.int (p2 &&& (2147483647 : Int32))), .val (.int (((p3 &&& (2147483647 : Int32)) % (2147483647 : Int32)) + (1 : Int32))), .val (.int (1 : Int32)), .unset] [(.ref b80)]) _
    refine st105 _ ?_
    show own_S p e below T105 (mkF m 200 #[.val (.int p1), .val (.int p2), .val (.int p3), .val (.int p4), .val (.int (2 : Int32)), .val (.int (p1 &&& (2147483647 : Int32))), .val (.int (p2 &&& (2147483647 : Int32))), .val (.int ((p3 &&& (2147483647 : Int32)) % (2147483647 : Int32))), .val (.ref b80), .val (.ref b99), .val (.int (p1 &&& (2147483647 : Int32))), .val (.int (p2 &&& (2147483647 : Int32))), .val (.int (((p3 &&& (2147483647 : Int32)) % (2147483647 : Int32)) + (1 : Int32))), .val (.int (1 : Int32)), .unset] [(.int ((p3 &&& (2147483647 : Int32)) % (2147483647 : Int32)))]) _
    refine XS.iload X105.here hx rfl (hb hby at_200) rfl ?_
    show own_S p e below T105 (mkF m 202 #[.val (.int p1), .val (.int p2), .val (.int p3), .val (.int p4), .val (.int (2 : Int32)), .val (.int (p1 &&& (2147483647 : Int32))), .val (.int (p2 &&& (2147483647 : Int32))), .val (.int ((p3 &&& (2147483647 : Int32)) % (2147483647 : Int32))), .val (.ref b80), .val (.ref b99), .val (.int (p1 &&& (2147483647 : Int32))), .val (.int (p2 &&& (2147483647 : Int32))), .val (.int (((p3 &&& (2147483647 : Int32)) % (2147483647 : Int32)) + (1 : Int32))), .val (.int (1 : Int32)), .unset] [(.int ((p3 &&& (2147483647 : Int32)) % (2147483647 : Int32))), (.int ((p3 &&& (2147483647 : Int32)) % (2147483647 : Int32)))]) _
    refine XS.icmpNo X105.here hx rfl (hb hby at_202) rfl (teq (rfl : ((p3 &&& (2147483647 : Int32)) % (2147483647 : Int32)) = ((p3 &&& (2147483647 : Int32)) % (2147483647 : Int32)))).2 ?_
    show own_S p e below T105 (mkF m 205 #[.val (.int p1), .val (.int p2), .val (.int p3), .val (.int p4), .val (.int (2 : Int32)), .val (.int (p1 &&& (2147483647 : Int32))), .val (.int (p2 &&& (2147483647 : Int32))), .val (.int ((p3 &&& (2147483647 : Int32)) % (2147483647 : Int32))), .val (.ref b80), .val (.ref b99), .val (.int (p1 &&& (2147483647 : Int32))), .val (.int (p2 &&& (2147483647 : Int32))), .val (.int (((p3 &&& (2147483647 : Int32)) % (2147483647 : Int32)) + (1 : Int32))), .val (.int (1 : Int32)), .unset] []) _
    refine XS.iconst X105.here hx rfl (hb hby at_205) ?_
    show own_S p e below T105 (mkF m 206 #[.val (.int p1), .val (.int p2), .val (.int p3), .val (.int p4), .val (.int (2 : Int32)), .val (.int (p1 &&& (2147483647 : Int32))), .val (.int (p2 &&& (2147483647 : Int32))), .val (.int ((p3 &&& (2147483647 : Int32)) % (2147483647 : Int32))), .val (.ref b80), .val (.ref b99), .val (.int (p1 &&& (2147483647 : Int32))), .val (.int (p2 &&& (2147483647 : Int32))), .val (.int (((p3 &&& (2147483647 : Int32)) % (2147483647 : Int32)) + (1 : Int32))), .val (.int (1 : Int32)), .unset] [(.int (1 : Int32))]) _
    refine XS.goto X105.here hx rfl (pc0 := 206) (pc' := 210) rfl (hb hby at_206) (by decide) (by decide) ?_
    show own_S p e below T105 (mkF m 210 #[.val (.int p1), .val (.int p2), .val (.int p3), .val (.int p4), .val (.int (2 : Int32)), .val (.int (p1 &&& (2147483647 : Int32))), .val (.int (p2 &&& (2147483647 : Int32))), .val (.int ((p3 &&& (2147483647 : Int32)) % (2147483647 : Int32))), .val (.ref b80), .val (.ref b99), .val (.int (p1 &&& (2147483647 : Int32))), .val (.int (p2 &&& (2147483647 : Int32))), .val (.int (((p3 &&& (2147483647 : Int32)) % (2147483647 : Int32)) + (1 : Int32))), .val (.int (1 : Int32)), .unset] [(.int (1 : Int32))]) _
    refine XS.istore X105.here hx rfl (hb hby at_210) rfl (l' := #[.val (.int p1), .val (.int p2), .val (.int p3), .val (.int p4), .val (.int (2 : Int32)), .val (.int (p1 &&& (2147483647 : Int32))), .val (.int (p2 &&& (2147483647 : Int32))), .val (.int ((p3 &&& (2147483647 : Int32)) % (2147483647 : Int32))), .val (.ref b80), .val (.ref b99), .val (.int (p1 &&& (2147483647 : Int32))), .val (.int (p2 &&& (2147483647 : Int32))), .val (.int (((p3 &&& (2147483647 : Int32)) % (2147483647 : Int32)) + (1 : Int32))), .val (.int (1 : Int32)), .val (.int (1 : Int32))]) rfl ?_
    show own_S p e below T105 (mkF m 212 #[.val (.int p1), .val (.int p2), .val (.int p3), .val (.int p4), .val (.int (2 : Int32)), .val (.int (p1 &&& (2147483647 : Int32))), .val (.int (p2 &&& (2147483647 : Int32))), .val (.int ((p3 &&& (2147483647 : Int32)) % (2147483647 : Int32))), .val (.ref b80), .val (.ref b99), .val (.int (p1 &&& (2147483647 : Int32))), .val (.int (p2 &&& (2147483647 : Int32))), .val (.int (((p3 &&& (2147483647 : Int32)) % (2147483647 : Int32)) + (1 : Int32))), .val (.int (1 : Int32)), .val (.int (1 : Int32))] []) _
    refine XS.iload X105.here hx rfl (hb hby at_212) rfl ?_
    show own_S p e below T105 (mkF m 214 #[.val (.int p1), .val (.int p2), .val (.int p3), .val (.int p4), .val (.int (2 : Int32)), .val (.int (p1 &&& (2147483647 : Int32))), .val (.int (p2 &&& (2147483647 : Int32))), .val (.int ((p3 &&& (2147483647 : Int32)) % (2147483647 : Int32))), .val (.ref b80), .val (.ref b99), .val (.int (p1 &&& (2147483647 : Int32))), .val (.int (p2 &&& (2147483647 : Int32))), .val (.int (((p3 &&& (2147483647 : Int32)) % (2147483647 : Int32)) + (1 : Int32))), .val (.int (1 : Int32)), .val (.int (1 : Int32))] [(.int (1 : Int32))]) _
    refine XS.ifNo X105.here hx rfl (hb hby at_214) rfl ((if0 _ _).trans (feq (by decide : ¬ ((1 : Int32) = (0 : Int32)))).1) ?_
    show own_S p e below T105 (mkF m 217 #[.val (.int p1), .val (.int p2), .val (.int p3), .val (.int p4), .val (.int (2 : Int32)), .val (.int (p1 &&& (2147483647 : Int32))), .val (.int (p2 &&& (2147483647 : Int32))), .val (.int ((p3 &&& (2147483647 : Int32)) % (2147483647 : Int32))), .val (.ref b80), .val (.ref b99), .val (.int (p1 &&& (2147483647 : Int32))), .val (.int (p2 &&& (2147483647 : Int32))), .val (.int (((p3 &&& (2147483647 : Int32)) % (2147483647 : Int32)) + (1 : Int32))), .val (.int (1 : Int32)), .val (.int (1 : Int32))] []) _
    refine XS.iload X105.here hx rfl (hb hby at_217) rfl ?_
    show own_S p e below T105 (mkF m 219 #[.val (.int p1), .val (.int p2), .val (.int p3), .val (.int p4), .val (.int (2 : Int32)), .val (.int (p1 &&& (2147483647 : Int32))), .val (.int (p2 &&& (2147483647 : Int32))), .val (.int ((p3 &&& (2147483647 : Int32)) % (2147483647 : Int32))), .val (.ref b80), .val (.ref b99), .val (.int (p1 &&& (2147483647 : Int32))), .val (.int (p2 &&& (2147483647 : Int32))), .val (.int (((p3 &&& (2147483647 : Int32)) % (2147483647 : Int32)) + (1 : Int32))), .val (.int (1 : Int32)), .val (.int (1 : Int32))] [(.int (1 : Int32))]) _
    refine XS.ifNo X105.here hx rfl (hb hby at_219) rfl ((if0 _ _).trans (feq (by decide : ¬ ((1 : Int32) = (0 : Int32)))).1) ?_
    show own_S p e below T105 (mkF m 222 #[.val (.int p1), .val (.int p2), .val (.int p3), .val (.int p4), .val (.int (2 : Int32)), .val (.int (p1 &&& (2147483647 : Int32))), .val (.int (p2 &&& (2147483647 : Int32))), .val (.int ((p3 &&& (2147483647 : Int32)) % (2147483647 : Int32))), .val (.ref b80), .val (.ref b99), .val (.int (p1 &&& (2147483647 : Int32))), .val (.int (p2 &&& (2147483647 : Int32))), .val (.int (((p3 &&& (2147483647 : Int32)) % (2147483647 : Int32)) + (1 : Int32))), .val (.int (1 : Int32)), .val (.int (1 : Int32))] []) _
    refine XS.iconst X105.here hx rfl (hb hby at_222) ?_
    show own_S p e below T105 (mkF m 223 #[.val (.int p1), .val (.int p2), .val (.int p3), .val (.int p4), .val (.int (2 : Int32)), .val (.int (p1 &&& (2147483647 : Int32))), .val (.int (p2 &&& (2147483647 : Int32))), .val (.int ((p3 &&& (2147483647 : Int32)) % (2147483647 : Int32))), .val (.ref b80), .val (.ref b99), .val (.int (p1 &&& (2147483647 : Int32))), .val (.int (p2 &&& (2147483647 : Int32))), .val (.int (((p3 &&& (2147483647 : Int32)) % (2147483647 : Int32)) + (1 : Int32))), .val (.int (1 : Int32)), .val (.int (1 : Int32))] [(.int (1 : Int32))]) _
    refine XS.goto X105.here hx rfl (pc0 := 223) (pc' := 227) rfl (hb hby at_223) (by decide) (by decide) ?_
    show own_S p e below T105 (mkF m 227 #[.val (.int p1), .val (.int p2), .val (.int p3), .val (.int p4), .val (.int (2 : Int32)), .val (.int (p1 &&& (2147483647 : Int32))), .val (.int (p2 &&& (2147483647 : Int32))), .val (.int ((p3 &&& (2147483647 : Int32)) % (2147483647 : Int32))), .val (.ref b80), .val (.ref b99), .val (.int (p1 &&& (2147483647 : Int32))), .val (.int (p2 &&& (2147483647 : Int32))), .val (.int (((p3 &&& (2147483647 : Int32)) % (2147483647 : Int32)) + (1 : Int32))), .val (.int (1 : Int32)), .val (.int (1 : Int32))] [(.int (1 : Int32))]) _
    exact retN X105 hx (t := .boolean) hret (by simp) (hb hby at_227) hr
  · show Qrm0_2 Z w__SwitchMap_com_example_fill_realm_fillrealm_Outcome cl_w__SwitchMap_com_example_fill_realm_fillrealm_Outcome w_FAILED p1 p2 p3 p4 h0 _ T105.heap _
    exact ⟨rfl, N105⟩
set_option maxRecDepth 65536 in
set_option maxHeartbeats 40000000 in
theorem comes_1 {Post : Tables → Env → Array Value → State → Outcome → State → Prop} (hpost : ∀ tb e args s v u, (limb_1_1.after args s (.returned v) u = true ∧ limb_1_2.after args s (.returned v) u = true ∧ True) → FrameEnd s (.returned v) u (Jvm.fieldLocs frame_1_writes args s ++ Jvm.arrayLocs frame_1_arrays args s ++ Jvm.staticLocs frame_1_statics s) 16 128 → Post tb e args s (.returned v) u) :
    ArmFor flags0 classFile x code maxLocals ret World_1 tables_1 room_1 Calls_1 rest_1 Pre_1 Post := by
  intro l hfl _ _ p e ha hc hk s m args below hf hA hF happ hP
  obtain ⟨hcalls, hrest, hpre⟩ := hP
  obtain ⟨-, -, -, hnamed, -, -, -, hat⟩ := (Spec.applies_iff hf).mp happ
  obtain ⟨hg, hn⟩ := and_e (Cond.before_iff.mp (show (Jvm.Cond.and given_1 narrow_1).before args s = true from hpre))
  obtain ⟨hcount, hG0⟩ := and_e hg
  obtain ⟨hA0, hG1⟩ := and_e hG0
  obtain ⟨hA1, hG2⟩ := and_e hG1
  obtain ⟨hA2, hG3⟩ := and_e hG2
  have hA3 := hG3
  obtain ⟨v0, v1, v2, v3, rfl⟩ : ∃ v0 v1 v2 v3 : Value, args = #[v0, v1, v2, v3] := by
    have hs : args.size = 4 := by simpa [Cond.value, given_1] using hcount
    obtain ⟨L⟩ := args
    match L, hs with
    | [v0, v1, v2, v3], _ => exact ⟨v0, v1, v2, v3, rfl⟩
  have hw := fun d (hd : d ∈ tables_1) => atoms_spec (ws := Jvm.Cond.code x code maxLocals ret :: tables_1) hat d (List.mem_cons_of_mem _ hd)
  obtain ⟨p1, ei0⟩ := is_v hA0
  obtain rfl : v0 = (.int p1) := Option.some.inj ei0
  obtain ⟨p2, ei1⟩ := is_v hA1
  obtain rfl : v1 = (.int p2) := Option.some.inj ei1
  obtain ⟨p3, ei2⟩ := is_v hA2
  obtain rfl : v2 = (.int p3) := Option.some.inj ei2
  obtain ⟨p4, ei3⟩ := is_v hA3
  obtain rfl : v3 = (.int p4) := Option.some.inj ei3
  obtain ⟨hN0, hR0⟩ := and_e hn
  obtain ⟨hN1, hR1⟩ := and_e hR0
  obtain ⟨hN2, hR2⟩ := and_e hR1
  obtain ⟨hN3, hR3⟩ := and_e hR2
  obtain ⟨hN4, hR4⟩ := and_e hR3
  obtain ⟨hN5, hR5⟩ := and_e hR4
  obtain ⟨hN6, hR6⟩ := and_e hR5
  obtain ⟨hN7, hR7⟩ := and_e hR6
  obtain ⟨hN8, hR8⟩ := and_e hR7
  obtain ⟨hN9, hR9⟩ := and_e hR8
  have hN10 := hR9
  obtain ⟨w_SKIPPED, ev_w_SKIPPED⟩ := exa_v hN0
  have E_w_SKIPPED : Exa s s.heap w_SKIPPED "com/example/fill_realm/fillrealm/Outcome" := Exa.start ev_w_SKIPPED hN0
  have S_w_SKIPPED : Sta s s.heap "com/example/fill_realm/fillrealm/Outcome" "SKIPPED" "Lcom/example/fill_realm/fillrealm/Outcome;" (.ref w_SKIPPED) := Sta.start ev_w_SKIPPED (Or.inr ⟨(own_w hw 21 rfl), (own_w hw 22 rfl)⟩)
  obtain ⟨w__SwitchMap_com_example_fill_realm_fillrealm_Outcome, ev_w__SwitchMap_com_example_fill_realm_fillrealm_Outcome⟩ := arr_v hN1
  obtain ⟨cl_w__SwitchMap_com_example_fill_realm_fillrealm_Outcome, Ar_w__SwitchMap_com_example_fill_realm_fillrealm_Outcome⟩ := Arr.start ev_w__SwitchMap_com_example_fill_realm_fillrealm_Outcome hN1
  have S_w__SwitchMap_com_example_fill_realm_fillrealm_Outcome : Sta s s.heap "com/example/fill_realm/fillrealm/Summary$1" "$SwitchMap$com$example$fill_realm$fillrealm$Outcome" "[I" (.ref w__SwitchMap_com_example_fill_realm_fillrealm_Outcome) := Sta.start ev_w__SwitchMap_com_example_fill_realm_fillrealm_Outcome (Or.inr ⟨(own_w hw 29 rfl), (own_w hw 30 rfl)⟩)
  obtain ⟨w_FAILED, ev_w_FAILED⟩ := exa_v hN5
  have E_w_FAILED : Exa s s.heap w_FAILED "com/example/fill_realm/fillrealm/Outcome" := Exa.start ev_w_FAILED hN5
  have S_w_FAILED : Sta s s.heap "com/example/fill_realm/fillrealm/Outcome" "FAILED" "Lcom/example/fill_realm/fillrealm/Outcome;" (.ref w_FAILED) := Sta.start ev_w_FAILED (Or.inr ⟨(own_w hw 21 rfl), (own_w hw 58 rfl)⟩)
  obtain ⟨w_CREATED, ev_w_CREATED⟩ := exa_v hN8
  have E_w_CREATED : Exa s s.heap w_CREATED "com/example/fill_realm/fillrealm/Outcome" := Exa.start ev_w_CREATED hN8
  have S_w_CREATED : Sta s s.heap "com/example/fill_realm/fillrealm/Outcome" "CREATED" "Lcom/example/fill_realm/fillrealm/Outcome;" (.ref w_CREATED) := Sta.start ev_w_CREATED (Or.inr ⟨(own_w hw 21 rfl), (own_w hw 60 rfl)⟩)
  have Sz_w__SwitchMap_com_example_fill_realm_fillrealm_Outcome : cl_w__SwitchMap_com_example_fill_realm_fillrealm_Outcome.slots.size = (3 : Int32).toNatClampNeg := own_len ev_w__SwitchMap_com_example_fill_realm_fillrealm_Outcome Ar_w__SwitchMap_com_example_fill_realm_fillrealm_Outcome (own_eqI hN2) (by decide)
  have F_w_SKIPPED_ordinal : Fld s s.heap w_SKIPPED "java/lang/Enum" "ordinal" "I" (.int (1 : Int32)) := Fld.start ((fld_at ev_w_SKIPPED).symm.trans (own_eqI hN3))
  obtain ⟨hin_w__SwitchMap_com_example_fill_realm_fillrealm_Outcome_1, hat_w__SwitchMap_com_example_fill_realm_fillrealm_Outcome_1⟩ := elem_in (own_eqI hN4) ev_w__SwitchMap_com_example_fill_realm_fillrealm_Outcome (Term.int_eval (1 : Int32)) Ar_w__SwitchMap_com_example_fill_realm_fillrealm_Outcome.1
  have F_w_FAILED_ordinal : Fld s s.heap w_FAILED "java/lang/Enum" "ordinal" "I" (.int (2 : Int32)) := Fld.start ((fld_at ev_w_FAILED).symm.trans (own_eqI hN6))
  obtain ⟨hin_w__SwitchMap_com_example_fill_realm_fillrealm_Outcome_2, hat_w__SwitchMap_com_example_fill_realm_fillrealm_Outcome_2⟩ := elem_in (own_eqI hN7) ev_w__SwitchMap_com_example_fill_realm_fillrealm_Outcome (Term.int_eval (2 : Int32)) Ar_w__SwitchMap_com_example_fill_realm_fillrealm_Outcome.1
  have F_w_CREATED_ordinal : Fld s s.heap w_CREATED "java/lang/Enum" "ordinal" "I" (.int (0 : Int32)) := Fld.start ((fld_at ev_w_CREATED).symm.trans (own_eqI hN9))
  obtain ⟨hin_w__SwitchMap_com_example_fill_realm_fillrealm_Outcome_0, hat_w__SwitchMap_com_example_fill_realm_fillrealm_Outcome_0⟩ := elem_in (own_eqI hN10) ev_w__SwitchMap_com_example_fill_realm_fillrealm_Outcome (Term.int_eval (0 : Int32)) Ar_w__SwitchMap_com_example_fill_realm_fillrealm_Outcome.1
  have hX0 : Ext s.heap s.heap := ⟨Nat.le_refl _, fun _ _ q => q⟩
  have key : MetFree l x (head1 (Jvm.Cond.code x code maxLocals ret :: tables_1) room_1) (fun a U => a = #[(.int p1), (.int p2), (.int p3), (.int p4)] ∧ s.Warmed39 U.vm ∧ U.heap = s.heap) (fun _ _ _ _ _ => True) (fun _ U o U' => ∃ v L, o = .returned v ∧ (v = some (.int 1) ∧ Fr s.heap.size L) ∧ FrameEnd U o U' L room_1.cells room_1.slots) := by
    rcases own_split p4 with hq | hq | hq
    · exact rm0_0 l s _ hw tables_1 w__SwitchMap_com_example_fill_realm_fillrealm_Outcome cl_w__SwitchMap_com_example_fill_realm_fillrealm_Outcome w_CREATED p1 p2 p3 p4 s.heap hX0 S_w_CREATED S_w__SwitchMap_com_example_fill_realm_fillrealm_Outcome E_w_CREATED F_w_CREATED_ordinal Ar_w__SwitchMap_com_example_fill_realm_fillrealm_Outcome hin_w__SwitchMap_com_example_fill_realm_fillrealm_Outcome_0 hat_w__SwitchMap_com_example_fill_realm_fillrealm_Outcome_0 hq (own_nr p1).1 (own_nn p2) (own_nn p3) (own_nr p1).2
    · exact rm0_1 l s _ hw tables_1 w_SKIPPED w__SwitchMap_com_example_fill_realm_fillrealm_Outcome cl_w__SwitchMap_com_example_fill_realm_fillrealm_Outcome p1 p2 p3 p4 s.heap hX0 S_w_SKIPPED S_w__SwitchMap_com_example_fill_realm_fillrealm_Outcome E_w_SKIPPED F_w_SKIPPED_ordinal Ar_w__SwitchMap_com_example_fill_realm_fillrealm_Outcome hin_w__SwitchMap_com_example_fill_realm_fillrealm_Outcome_1 hat_w__SwitchMap_com_example_fill_realm_fillrealm_Outcome_1 hq (own_nn p1) (own_nr p2).1 (own_nn p3) (own_nr p2).2
    · exact rm0_2 l s _ hw tables_1 w__SwitchMap_com_example_fill_realm_fillrealm_Outcome cl_w__SwitchMap_com_example_fill_realm_fillrealm_Outcome w_FAILED p1 p2 p3 p4 s.heap hX0 S_w_FAILED S_w__SwitchMap_com_example_fill_realm_fillrealm_Outcome E_w_FAILED F_w_FAILED_ordinal Ar_w__SwitchMap_com_example_fill_realm_fillrealm_Outcome hin_w__SwitchMap_com_example_fill_realm_fillrealm_Outcome_2 hat_w__SwitchMap_com_example_fill_realm_fillrealm_Outcome_2 hq (own_nn p1) (own_nn p2) (own_nr p3).1 (own_nr p3).2
  obtain ⟨n, o, h1, h2, h3, _, L, rfl, ⟨rfl, N⟩, hq⟩ := key p e ha hc hk s m _ below hf ((Spec.applies_iff_loose hf).mp happ).1 ⟨rfl, State.Warmed39.refl s, rfl⟩ trivial
  refine ⟨n, _, h1, h2, h3, hpost _ _ _ _ _ _ ⟨Cond.after_iff.mpr rfl, Cond.after_iff.mpr (eq_i res_at (Term.int_eval (1)) rfl), trivial⟩ ⟨hq.1, hq.2.1, (hq.2.2.sift fun y hy => Or.inr (N y hy)).mono (by decide) (by decide)⟩⟩
theorem main_1_1 : Claimed_1_1 := comes_1 fun _ _ _ _ _ _ h hF => ⟨h.1, hF⟩
theorem main_1_2 : Claimed_1_2 := comes_1 fun _ _ _ _ _ _ h hF => ⟨h.2.1, hF⟩
end Jvm.Pilot.@@N@@
namespace Jvm.Pilot.@@N@@
open Jvm Jvm.ClassFile Sem Op Lib Jvm.Free Jvm.Stand Jvm.Pilot.@@N@@.Jvm.D
/-! MADE BY PROGRAM (witnessworld.py) out of the Statement's table words and the real class files: 14 classes; the members and pool entries that the words name. The judged class is class 1, her method 2. -/
namespace start1
open Jvm.ClassFile
def u (s : String) : CpInfo := .utf8 (stringToUtf16 s)
/-- a pool by its gaps: so many unusable entries, then the entry; so many at the end -/
def gap : Nat → List CpInfo → List CpInfo
  | 0, r => r
  | n + 1, r => .unusable :: gap n r
def poolList (es : List (Nat × CpInfo)) (last : Nat) : List CpInfo := es.foldr (fun e r => gap e.1 (e.2 :: r)) (gap last [])
def pool (es : List (Nat × CpInfo)) (last : Nat) : Array CpInfo := ⟨poolList es last⟩
def fileOf (pool : Array CpInfo) (this : Nat) (attrs : Array Attribute := #[]) (ms : Array MethodInfo := #[]) (fl : Nat := 33) (sup : Nat := 0) (ifs : Array Nat := #[]) (fds : Array FieldInfo := #[]) : ClassFile where
  minorVersion := 0
  majorVersion := 65
  constantPool := pool
  accessFlags := fl
  thisClass := this
  superClass := sup
  interfaces := ifs
  fields := fds
  methods := ms
  attributes := attrs
def plain (name : String) (sup : Option ClassId) : Class where
  name := name
  kind := .ordinary
  loader := none
  accessFlags := 33
  super := sup
  interfaces := #[]
  cf := none
  fields := #[]
  methods := #[]
  instanceTypes := #[]
  staticTypes := #[]
  resolved := #[]
  callSites := []
  init := .initialized
  statics := none
  mirror := none

def pool0 : Array CpInfo := pool [(5, u "<init>"), (0, u "()V"), (1, .class_ 10), (1, u "java/lang/Object")] 113

def k0c0 : Code := { maxStack := 0, maxLocals := 1, code := object_method_1_code, exceptionTable := #[], attributes := #[] }
def k0m0 : Method := { name := "<init>", desc := "()V", sig := { parameters := [], returnType := none }, accessFlags := 1, code := some k0c0 }
/-- java/lang/Object -/
def k0 : Class := { plain "java/lang/Object" none with
  accessFlags := 33
  interfaces := #[]
  cf := some (fileOf pool0 8 #[] #[{ accessFlags := 1, nameIndex := 5, descriptorIndex := 6, attributes := #[] }] 33 0 #[] #[])
  fields := #[]
  methods := #[k0m0]
  instanceTypes := #[]
  staticTypes := #[]
  resolved := Array.replicate 124 none
  statics := none }

def pool1 : Array CpInfo := pool [(2, .class_ 4), (1, u "java/lang/Object"), (0, u "<init>"), (0, u "()V"), (0, .fieldref 8 9), (0, .class_ 10), (0, .nameAndType 11 12), (0, u "com/example/fill_realm/fillrealm/Outcome"), (0, u "CREATED"), (0, u "Lcom/example/fill_realm/fillrealm/Outcome;"), (0, .fieldref 8 14), (0, .nameAndType 15 12), (0, u "SKIPPED"), (0, .fieldref 8 17), (0, .nameAndType 18 12), (0, u "FAILED"), (0, .integer 2147483647), (0, .class_ 21), (0, u "com/example/fill_realm/fillrealm/Summary"), (0, .methodref 20 23), (0, .nameAndType 5 24), (0, u "(III)V"), (0, .methodref 26 27), (0, .class_ 28), (0, .nameAndType 29 30), (0, u "com/example/fill_realm/fillrealm/SummaryPlusPinLaw"), (0, u "pick"), (0, u "(I)Lcom/example/fill_realm/fillrealm/Outcome;"), (0, .methodref 20 32), (0, .nameAndType 33 34), (0, u "plus"), (0, u "(Lcom/example/fill_realm/fillrealm/Outcome;)Lcom/example/fill_realm/fillrealm/Summary;"), (0, .methodref 20 36), (0, .nameAndType 37 38), (0, u "getCreated"), (0, u "()I"), (0, .methodref 20 40), (0, .nameAndType 41 38), (0, u "getSkipped"), (0, .methodref 20 43), (0, .nameAndType 44 38), (0, u "getFailed"), (3, u "law"), (0, u "(IIII)Z")] 2

def k1m0 : Method := { name := "<init>", desc := "()V", sig := { parameters := [], returnType := none }, accessFlags := 1, code := none }
def k1c1 : Code := { maxStack := 2, maxLocals := 1, code := method_2_code, exceptionTable := #[], attributes := #[] }
def k1m1 : Method := { name := "pick", desc := "(I)Lcom/example/fill_realm/fillrealm/Outcome;", sig := { parameters := [.int], returnType := some (.object "com/example/fill_realm/fillrealm/Outcome") }, accessFlags := 10, code := some k1c1 }
def k1c2 : Code := { maxStack := 5, maxLocals := 15, code := code, exceptionTable := #[], attributes := #[] }
def k1m2 : Method := { name := "law", desc := "(IIII)Z", sig := { parameters := [.int, .int, .int, .int], returnType := some .boolean }, accessFlags := 9, code := some k1c2 }
/-- com/example/fill_realm/fillrealm/SummaryPlusPinLaw -/
def k1 : Class := { plain "com/example/fill_realm/fillrealm/SummaryPlusPinLaw" (some 0) with
  accessFlags := 49
  interfaces := #[]
  cf := some (fileOf pool1 26 #[] #[{ accessFlags := 1, nameIndex := 5, descriptorIndex := 6, attributes := #[] }, { accessFlags := 10, nameIndex := 29, descriptorIndex := 30, attributes := #[] }, { accessFlags := 9, nameIndex := 48, descriptorIndex := 49, attributes := #[] }] 49 2 #[] #[])
  fields := #[]
  methods := #[k1m0, k1m1, k1m2]
  instanceTypes := #[]
  staticTypes := #[]
  resolved := Array.replicate 52 none
  statics := none }

def pool2 : Array CpInfo := pool [(1, .methodref 2 3), (0, .class_ 4), (0, .nameAndType 5 6), (0, u "java/lang/Object"), (0, u "<init>"), (0, u "()V"), (9, .fieldref 17 18), (0, .class_ 19), (0, .nameAndType 20 21), (0, u "com/example/fill_realm/fillrealm/Summary"), (0, u "created"), (0, u "I"), (0, .fieldref 17 23), (0, .nameAndType 24 21), (0, u "skipped"), (0, .fieldref 17 26), (0, .nameAndType 27 21), (0, u "failed"), (0, .fieldref 29 30), (0, .class_ 31), (0, .nameAndType 32 33), (0, u "com/example/fill_realm/fillrealm/Summary$1"), (0, u "$SwitchMap$com$example$fill_realm$fillrealm$Outcome"), (0, u "[I"), (0, .methodref 35 36), (0, .class_ 37), (0, .nameAndType 38 39), (0, u "com/example/fill_realm/fillrealm/Outcome"), (0, u "ordinal"), (0, u "()I"), (5, .methodref 17 46), (0, .nameAndType 5 47), (0, u "(III)V"), (31, u "NONE"), (0, u "Lcom/example/fill_realm/fillrealm/Summary;"), (3, u "getCreated"), (0, u "getSkipped"), (0, u "getFailed"), (0, u "plus"), (0, u "(Lcom/example/fill_realm/fillrealm/Outcome;)Lcom/example/fill_realm/fillrealm/Summary;")] 23

def k2c0 : Code := { maxStack := 5, maxLocals := 4, code := prog_13_method_1_code, exceptionTable := #[], attributes := #[] }
def k2m0 : Method := { name := "<init>", desc := "(III)V", sig := { parameters := [.int, .int, .int], returnType := none }, accessFlags := 1, code := some k2c0 }
def k2c1 : Code := { maxStack := 1, maxLocals := 1, code := prog_13_method_2_code, exceptionTable := #[], attributes := #[] }
def k2m1 : Method := { name := "getCreated", desc := "()I", sig := { parameters := [], returnType := some .int }, accessFlags := 1, code := some k2c1 }
def k2c2 : Code := { maxStack := 1, maxLocals := 1, code := prog_13_method_3_code, exceptionTable := #[], attributes := #[] }
def k2m2 : Method := { name := "getSkipped", desc := "()I", sig := { parameters := [], returnType := some .int }, accessFlags := 1, code := some k2c2 }
def k2c3 : Code := { maxStack := 1, maxLocals := 1, code := prog_13_method_4_code, exceptionTable := #[], attributes := #[] }
def k2m3 : Method := { name := "getFailed", desc := "()I", sig := { parameters := [], returnType := some .int }, accessFlags := 1, code := some k2c3 }
def k2c4 : Code := { maxStack := 6, maxLocals := 2, code := prog_13_method_6_code, exceptionTable := #[], attributes := #[] }
def k2m4 : Method := { name := "plus", desc := "(Lcom/example/fill_realm/fillrealm/Outcome;)Lcom/example/fill_realm/fillrealm/Summary;", sig := { parameters := [(.object "com/example/fill_realm/fillrealm/Outcome")], returnType := some (.object "com/example/fill_realm/fillrealm/Summary") }, accessFlags := 1, code := some k2c4 }
/-- com/example/fill_realm/fillrealm/Summary -/
def k2 : Class := { plain "com/example/fill_realm/fillrealm/Summary" (some 0) with
  accessFlags := 49
  interfaces := #[]
  cf := some (fileOf pool2 17 #[.nestMembers #[29]] #[{ accessFlags := 1, nameIndex := 5, descriptorIndex := 47, attributes := #[] }, { accessFlags := 1, nameIndex := 84, descriptorIndex := 39, attributes := #[] }, { accessFlags := 1, nameIndex := 85, descriptorIndex := 39, attributes := #[] }, { accessFlags := 1, nameIndex := 86, descriptorIndex := 39, attributes := #[] }, { accessFlags := 1, nameIndex := 87, descriptorIndex := 88, attributes := #[] }] 49 2 #[] #[{ accessFlags := 25, nameIndex := 79, descriptorIndex := 80, attributes := #[] }, { accessFlags := 18, nameIndex := 20, descriptorIndex := 21, attributes := #[] }, { accessFlags := 18, nameIndex := 24, descriptorIndex := 21, attributes := #[] }, { accessFlags := 18, nameIndex := 27, descriptorIndex := 21, attributes := #[] }])
  fields := #[{ name := "NONE", type := (.object "com/example/fill_realm/fillrealm/Summary"), accessFlags := 25, slot := 0, constantValue := 0 }, { name := "created", type := .int, accessFlags := 18, slot := 0, constantValue := 0 }, { name := "skipped", type := .int, accessFlags := 18, slot := 1, constantValue := 0 }, { name := "failed", type := .int, accessFlags := 18, slot := 2, constantValue := 0 }]
  methods := #[k2m0, k2m1, k2m2, k2m3, k2m4]
  instanceTypes := #[.int, .int, .int]
  staticTypes := #[(.object "com/example/fill_realm/fillrealm/Summary")]
  resolved := Array.replicate 112 none
  statics := none }

def pool3 : Array CpInfo := pool [(1, .class_ 2), (0, u "java/lang/constant/Constable"), (0, .class_ 4), (0, u "java/lang/Object")] 6

/-- java/lang/constant/Constable -/
def k3 : Class := { plain "java/lang/constant/Constable" (some 0) with
  accessFlags := 1537
  interfaces := #[]
  cf := some (fileOf pool3 1 #[] #[] 1537 3 #[] #[])
  fields := #[]
  methods := #[]
  instanceTypes := #[]
  staticTypes := #[]
  resolved := Array.replicate 11 none
  statics := none }

def pool4 : Array CpInfo := pool [(1, .class_ 2), (0, u "java/lang/Comparable"), (0, .class_ 4), (0, u "java/lang/Object")] 7

/-- java/lang/Comparable -/
def k4 : Class := { plain "java/lang/Comparable" (some 0) with
  accessFlags := 1537
  interfaces := #[]
  cf := some (fileOf pool4 1 #[] #[] 1537 3 #[] #[])
  fields := #[]
  methods := #[]
  instanceTypes := #[]
  staticTypes := #[]
  resolved := Array.replicate 12 none
  statics := none }

def pool5 : Array CpInfo := pool [(1, .class_ 2), (0, u "java/io/Serializable"), (0, .class_ 4), (0, u "java/lang/Object")] 2

/-- java/io/Serializable -/
def k5 : Class := { plain "java/io/Serializable" (some 0) with
  accessFlags := 1537
  interfaces := #[]
  cf := some (fileOf pool5 1 #[] #[] 1537 3 #[] #[])
  fields := #[]
  methods := #[]
  instanceTypes := #[]
  staticTypes := #[]
  resolved := Array.replicate 7 none
  statics := none }

def pool6 : Array CpInfo := pool [(2, .class_ 4), (1, u "java/lang/Enum"), (0, u "name"), (0, u "Ljava/lang/String;"), (0, .fieldref 2 8), (0, .nameAndType 9 10), (0, u "ordinal"), (0, u "I"), (1, .class_ 14), (1, u "java/lang/Object"), (4, u "hash"), (86, .class_ 108), (1, u "java/lang/Enum$EnumDesc"), (2, .class_ 112), (0, u "java/lang/constant/Constable"), (0, .class_ 114), (0, u "java/lang/Comparable"), (0, .class_ 116), (0, u "java/io/Serializable"), (9, u "()I")] 77

def k6c0 : Code := { maxStack := 1, maxLocals := 1, code := jdk_37_method_2_code, exceptionTable := #[], attributes := #[] }
def k6m0 : Method := { name := "ordinal", desc := "()I", sig := { parameters := [], returnType := some .int }, accessFlags := 17, code := some k6c0 }
/-- java/lang/Enum -/
def k6 : Class := { plain "java/lang/Enum" (some 0) with
  accessFlags := 1057
  interfaces := #[3, 4, 5]
  cf := some (fileOf pool6 2 #[.nestMembers #[106]] #[{ accessFlags := 17, nameIndex := 9, descriptorIndex := 126, attributes := #[] }] 1057 12 #[111, 113, 115] #[{ accessFlags := 18, nameIndex := 5, descriptorIndex := 6, attributes := #[] }, { accessFlags := 18, nameIndex := 9, descriptorIndex := 10, attributes := #[] }, { accessFlags := 2, nameIndex := 19, descriptorIndex := 10, attributes := #[] }])
  fields := #[{ name := "name", type := (.object "java/lang/String"), accessFlags := 18, slot := 0, constantValue := 0 }, { name := "ordinal", type := .int, accessFlags := 18, slot := 1, constantValue := 0 }, { name := "hash", type := .int, accessFlags := 2, slot := 2, constantValue := 0 }]
  methods := #[k6m0]
  instanceTypes := #[(.object "java/lang/String"), .int, .int]
  staticTypes := #[]
  resolved := Array.replicate 204 none
  statics := none }

def pool7 : Array CpInfo := pool [(1, .class_ 2), (0, u "com/example/fill_realm/fillrealm/Outcome"), (2, u "CREATED"), (0, u "Lcom/example/fill_realm/fillrealm/Outcome;"), (2, u "SKIPPED"), (2, u "FAILED"), (2, u "$VALUES"), (0, u "[Lcom/example/fill_realm/fillrealm/Outcome;"), (6, .class_ 25), (1, u "java/lang/Enum")] 42

/-- com/example/fill_realm/fillrealm/Outcome -/
def k7 : Class := { plain "com/example/fill_realm/fillrealm/Outcome" (some 6) with
  accessFlags := 16433
  interfaces := #[]
  cf := some (fileOf pool7 1 #[] #[] 16433 23 #[] #[{ accessFlags := 16409, nameIndex := 5, descriptorIndex := 6, attributes := #[] }, { accessFlags := 16409, nameIndex := 9, descriptorIndex := 6, attributes := #[] }, { accessFlags := 16409, nameIndex := 12, descriptorIndex := 6, attributes := #[] }, { accessFlags := 4122, nameIndex := 15, descriptorIndex := 16, attributes := #[] }])
  fields := #[{ name := "CREATED", type := (.object "com/example/fill_realm/fillrealm/Outcome"), accessFlags := 16409, slot := 0, constantValue := 0 }, { name := "SKIPPED", type := (.object "com/example/fill_realm/fillrealm/Outcome"), accessFlags := 16409, slot := 1, constantValue := 0 }, { name := "FAILED", type := (.object "com/example/fill_realm/fillrealm/Outcome"), accessFlags := 16409, slot := 2, constantValue := 0 }, { name := "$VALUES", type := (.array (.object "com/example/fill_realm/fillrealm/Outcome")), accessFlags := 4122, slot := 3, constantValue := 0 }]
  methods := #[]
  instanceTypes := #[(.object "java/lang/String"), .int, .int]
  staticTypes := #[(.object "com/example/fill_realm/fillrealm/Outcome"), (.object "com/example/fill_realm/fillrealm/Outcome"), (.object "com/example/fill_realm/fillrealm/Outcome"), (.array (.object "com/example/fill_realm/fillrealm/Outcome"))]
  resolved := Array.replicate 68 none
  statics := some 0 }

def pool8 : Array CpInfo := pool [(8, .class_ 10), (1, u "com/example/fill_realm/fillrealm/Summary$1"), (0, u "$SwitchMap$com$example$fill_realm$fillrealm$Outcome"), (0, u "[I"), (16, .class_ 30), (0, u "java/lang/Object"), (8, .class_ 40), (0, u "com/example/fill_realm/fillrealm/Summary")] 2

/-- com/example/fill_realm/fillrealm/Summary$1 -/
def k8 : Class := { plain "com/example/fill_realm/fillrealm/Summary$1" (some 0) with
  accessFlags := 4128
  interfaces := #[]
  cf := some (fileOf pool8 8 #[.nestHost 39] #[] 4128 29 #[] #[{ accessFlags := 4120, nameIndex := 11, descriptorIndex := 12, attributes := #[] }])
  fields := #[{ name := "$SwitchMap$com$example$fill_realm$fillrealm$Outcome", type := (.array .int), accessFlags := 4120, slot := 0, constantValue := 0 }]
  methods := #[]
  instanceTypes := #[]
  staticTypes := #[(.array .int)]
  resolved := Array.replicate 43 none
  statics := some 1 }

def pool9 : Array CpInfo := pool [(1, u "java/lang/Cloneable"), (0, .class_ 1), (0, u "java/lang/Object"), (0, .class_ 3)] 3

/-- java/lang/Cloneable -/
def k9 : Class := { plain "java/lang/Cloneable" (some 0) with
  accessFlags := 1537
  interfaces := #[]
  cf := some (fileOf pool9 2 #[] #[] 1537 4 #[] #[])
  fields := #[]
  methods := #[]
  instanceTypes := #[]
  staticTypes := #[]
  resolved := Array.replicate 8 none
  statics := none }

/-- the primitive byte -/
def k10 : Class := { plain "byte" none with kind := .primitive 'B', accessFlags := 0x411 }
/-- [B -/
def k11 : Class := { plain "[B" (some 0) with kind := .array 10 .byte, interfaces := #[9, 5], accessFlags := 1041 }

/-- the primitive int -/
def k12 : Class := { plain "int" none with kind := .primitive 'I', accessFlags := 0x411 }
/-- [I -/
def k13 : Class := { plain "[I" (some 0) with kind := .array 12 .int, interfaces := #[9, 5], accessFlags := 1041 }

def heap : Heap := #[{ cls := 7, slots := #[.ref 5, .ref 2, .ref 4, .null], vm := .statics 7 },
  { cls := 8, slots := #[.ref 3], vm := .statics 8 },
  { cls := 7, slots := #[.null, .int 1, .int 0], vm := .none },
  { cls := 13, slots := #[.int 1, .int 2, .int 3], vm := .none },
  { cls := 7, slots := #[.null, .int 2, .int 0], vm := .none },
  { cls := 7, slots := #[.null, .int 0, .int 0], vm := .none }]
def classes : Array Class := #[k0, k1, k2, k3, k4, k5, k6, k7, k8, k9, k10, k11, k12, k13]
def interned : List (Array UInt16 × Addr) := []
def slotsUsed : Nat := 17
def theMethod : MethodId := ⟨1, 2⟩
def args0 : Array Value := #[.int 5, .int 6, .int 7, .int 1]
def aboutOver (below : List Frame) : State where
  vm := { classes := classes, interned := interned.toArray }
  heap := heap
  slotsUsed := slotsUsed
  threads := #[{ frames := .invoking theMethod args0 :: below }]
def below0 : List Frame := [.native { method := ⟨0, 0⟩, args := #[] }]
def about1 : State := aboutOver below0
def p0 : Program := .bare "" "" ""
def e0 : Env := launch0.env 0 0 0
theorem w_frames : about1.frames = Frame.invoking theMethod args0 :: below0 := rfl
set_option maxRecDepth 65536 in
theorem w_args : argsFit about1.vm theMethod args0 = true := by decide +kernel
set_option maxRecDepth 65536 in
theorem w_heap : heapFits about1 = true := by decide +kernel
set_option maxRecDepth 65536 in
theorem w_runnable : about1.curStatus? = some .runnable := by decide +kernel
set_option maxRecDepth 65536 in
theorem w_alone : about1.alone = true := by decide +kernel
set_option maxRecDepth 65536 in
theorem w_named : about1.methodNamed? x = some theMethod := by decide +kernel
set_option maxRecDepth 65536 in
theorem w_hears : about1.hears theMethod below0 = true := by decide +kernel
set_option maxRecDepth 65536 in
theorem w_ripe : about1.ripe theMethod args0 below0 = true := by decide +kernel
theorem w_running : about1.status = .running := rfl
set_option maxRecDepth 65536 in
theorem w_room : about1.hasRoom e0.platform room_1 = true :=
  launch0.hasRoom_least _ room_1 (by decide +kernel) (by decide +kernel) (by decide +kernel) (by decide +kernel) (by decide +kernel) (by decide +kernel)
theorem allAtoms_all (ts : List Jvm.Cond) (a : Array Jvm.Value) (st : Jvm.State) : (allAtoms ts).before a st = ts.all (fun c => c.before a st) := by
  induction ts with
  | nil => rfl
  | cons c t ih =>
    show (Jvm.Cond.and c (allAtoms t)).before a st = _
    rw [Jvm.Cond.before_and, ih, List.all_cons]
def words1 : List Jvm.Cond := Jvm.Cond.code x code maxLocals ret :: tables_1
/-- a 'code' word, met by the world's own term for the bytes: nothing is compared byte by byte -/
theorem code_word {y : MethodName} {bytes : ByteArray} {mx : Nat} {rt : Option FieldType} {a : Array Value} {s : State} {m : MethodId} {meth : Method} {c : Code} (h1 : s.methodNamed? y = some m) (h2 : s.vm.method? m = some meth) (h3 : meth.code = some c) (h4 : c.code = bytes)
    (h5 : (c.maxLocals == mx && c.exceptionTable.isEmpty && decide (c.maxStack ≤ mostOperands) && decide (meth.sig.returnType = rt) && !meth.locks && decide (parseMethodDescriptor y.desc = some meth.sig)) = true) : (Jvm.Cond.code y bytes mx rt).before a s = true := by
  simp only [Bool.and_eq_true, beq_iff_eq, Bool.not_eq_true', decide_eq_true_eq] at h5
  obtain ⟨⟨⟨⟨⟨g1, g2⟩, g3⟩, g4⟩, g5⟩, g6⟩ := h5
  simp [Cond.before, Cond.holds, Cond.value, h1, h2, h3, h4, g1, g2, g3, g4, g5, g6]
def isCode : Jvm.Cond → Bool
  | .code _ _ _ _ => true
  | _ => false
theorem all_split {L : List Jvm.Cond} {P : Jvm.Cond → Bool} (h1 : L.all (fun c => isCode c || P c) = true) (h2 : ∀ c ∈ L.filter isCode, P c = true) : L.all P = true := by
  refine List.all_eq_true.mpr fun c hc => ?_
  have h := List.all_eq_true.mp h1 c hc
  rcases Bool.eq_false_or_eq_true (isCode c) with hi | hi
  · exact h2 c (List.mem_filter.mpr ⟨hc, hi⟩)
  · simpa [hi] using h
set_option maxRecDepth 65536 in
theorem w_c0 : (Jvm.Cond.code x code maxLocals ret).before args0 about1 = true := code_word (m := ⟨1, 2⟩) (meth := k1m2) (c := k1c2) (by decide +kernel) rfl rfl rfl (by decide +kernel)
set_option maxRecDepth 65536 in
theorem w_c1 : (Jvm.Cond.code ({ cls := "com/example/fill_realm/fillrealm/Summary", name := "<init>", desc := "(III)V" } : Jvm.MethodName) prog_13_method_1_code (4 : Nat) (Option.none : Option Jvm.ClassFile.FieldType)).before args0 about1 = true := code_word (m := ⟨2, 0⟩) (meth := k2m0) (c := k2c0) (by decide +kernel) rfl rfl rfl (by decide +kernel)
set_option maxRecDepth 65536 in
theorem w_c2 : (Jvm.Cond.code ({ cls := "java/lang/Object", name := "<init>", desc := "()V" } : Jvm.MethodName) object_method_1_code (1 : Nat) (Option.none : Option Jvm.ClassFile.FieldType)).before args0 about1 = true := code_word (m := ⟨0, 0⟩) (meth := k0m0) (c := k0c0) (by decide +kernel) rfl rfl rfl (by decide +kernel)
set_option maxRecDepth 65536 in
theorem w_c3 : (Jvm.Cond.code ({ cls := "com/example/fill_realm/fillrealm/SummaryPlusPinLaw", name := "pick", desc := "(I)Lcom/example/fill_realm/fillrealm/Outcome;" } : Jvm.MethodName) method_2_code (1 : Nat) (Option.some (Jvm.ClassFile.FieldType.object "com/example/fill_realm/fillrealm/Outcome"))).before args0 about1 = true := code_word (m := ⟨1, 1⟩) (meth := k1m1) (c := k1c1) (by decide +kernel) rfl rfl rfl (by decide +kernel)
set_option maxRecDepth 65536 in
theorem w_c4 : (Jvm.Cond.code ({ cls := "com/example/fill_realm/fillrealm/Summary", name := "plus", desc := "(Lcom/example/fill_realm/fillrealm/Outcome;)Lcom/example/fill_realm/fillrealm/Summary;" } : Jvm.MethodName) prog_13_method_6_code (2 : Nat) (Option.some (Jvm.ClassFile.FieldType.object "com/example/fill_realm/fillrealm/Summary"))).before args0 about1 = true := code_word (m := ⟨2, 4⟩) (meth := k2m4) (c := k2c4) (by decide +kernel) rfl rfl rfl (by decide +kernel)
set_option maxRecDepth 65536 in
theorem w_c5 : (Jvm.Cond.code ({ cls := "java/lang/Enum", name := "ordinal", desc := "()I" } : Jvm.MethodName) jdk_37_method_2_code (1 : Nat) (Option.some Jvm.ClassFile.FieldType.int)).before args0 about1 = true := code_word (m := ⟨6, 0⟩) (meth := k6m0) (c := k6c0) (by decide +kernel) rfl rfl rfl (by decide +kernel)
set_option maxRecDepth 65536 in
theorem w_c6 : (Jvm.Cond.code ({ cls := "com/example/fill_realm/fillrealm/Summary", name := "getCreated", desc := "()I" } : Jvm.MethodName) prog_13_method_2_code (1 : Nat) (Option.some Jvm.ClassFile.FieldType.int)).before args0 about1 = true := code_word (m := ⟨2, 1⟩) (meth := k2m1) (c := k2c1) (by decide +kernel) rfl rfl rfl (by decide +kernel)
set_option maxRecDepth 65536 in
theorem w_c7 : (Jvm.Cond.code ({ cls := "com/example/fill_realm/fillrealm/Summary", name := "getSkipped", desc := "()I" } : Jvm.MethodName) prog_13_method_3_code (1 : Nat) (Option.some Jvm.ClassFile.FieldType.int)).before args0 about1 = true := code_word (m := ⟨2, 2⟩) (meth := k2m2) (c := k2c2) (by decide +kernel) rfl rfl rfl (by decide +kernel)
set_option maxRecDepth 65536 in
theorem w_c8 : (Jvm.Cond.code ({ cls := "com/example/fill_realm/fillrealm/Summary", name := "getFailed", desc := "()I" } : Jvm.MethodName) prog_13_method_4_code (1 : Nat) (Option.some Jvm.ClassFile.FieldType.int)).before args0 about1 = true := code_word (m := ⟨2, 3⟩) (meth := k2m3) (c := k2c3) (by decide +kernel) rfl rfl rfl (by decide +kernel)
def codes1 : List Jvm.Cond := [Jvm.Cond.code x code maxLocals ret, Jvm.Cond.code ({ cls := "com/example/fill_realm/fillrealm/Summary", name := "<init>", desc := "(III)V" } : Jvm.MethodName) prog_13_method_1_code (4 : Nat) (Option.none : Option Jvm.ClassFile.FieldType), Jvm.Cond.code ({ cls := "java/lang/Object", name := "<init>", desc := "()V" } : Jvm.MethodName) object_method_1_code (1 : Nat) (Option.none : Option Jvm.ClassFile.FieldType), Jvm.Cond.code ({ cls := "com/example/fill_realm/fillrealm/SummaryPlusPinLaw", name := "pick", desc := "(I)Lcom/example/fill_realm/fillrealm/Outcome;" } : Jvm.MethodName) method_2_code (1 : Nat) (Option.some (Jvm.ClassFile.FieldType.object "com/example/fill_realm/fillrealm/Outcome")), Jvm.Cond.code ({ cls := "com/example/fill_realm/fillrealm/Summary", name := "plus", desc := "(Lcom/example/fill_realm/fillrealm/Outcome;)Lcom/example/fill_realm/fillrealm/Summary;" } : Jvm.MethodName) prog_13_method_6_code (2 : Nat) (Option.some (Jvm.ClassFile.FieldType.object "com/example/fill_realm/fillrealm/Summary")), Jvm.Cond.code ({ cls := "java/lang/Enum", name := "ordinal", desc := "()I" } : Jvm.MethodName) jdk_37_method_2_code (1 : Nat) (Option.some Jvm.ClassFile.FieldType.int), Jvm.Cond.code ({ cls := "com/example/fill_realm/fillrealm/Summary", name := "getCreated", desc := "()I" } : Jvm.MethodName) prog_13_method_2_code (1 : Nat) (Option.some Jvm.ClassFile.FieldType.int), Jvm.Cond.code ({ cls := "com/example/fill_realm/fillrealm/Summary", name := "getSkipped", desc := "()I" } : Jvm.MethodName) prog_13_method_3_code (1 : Nat) (Option.some Jvm.ClassFile.FieldType.int), Jvm.Cond.code ({ cls := "com/example/fill_realm/fillrealm/Summary", name := "getFailed", desc := "()I" } : Jvm.MethodName) prog_13_method_4_code (1 : Nat) (Option.some Jvm.ClassFile.FieldType.int)]
set_option maxRecDepth 65536 in
theorem codes_eq : words1.filter isCode = codes1 := rfl
theorem w_codes : ∀ c ∈ words1.filter isCode, c.before args0 about1 = true := by
  rw [codes_eq]
  intro c hc
  simp only [codes1, List.mem_cons, List.not_mem_nil, or_false] at hc
  rcases hc with rfl | rfl | rfl | rfl | rfl | rfl | rfl | rfl | rfl
  · exact w_c0
  · exact w_c1
  · exact w_c2
  · exact w_c3
  · exact w_c4
  · exact w_c5
  · exact w_c6
  · exact w_c7
  · exact w_c8
set_option maxRecDepth 65536 in
theorem w_t1 : (words1.take 24).all (fun c => isCode c || c.before args0 about1) = true := by decide +kernel
set_option maxRecDepth 65536 in
theorem w_t2 : ((words1.drop 24).take 24).all (fun c => isCode c || c.before args0 about1) = true := by decide +kernel
set_option maxRecDepth 65536 in
theorem w_t3 : ((words1.drop 24).drop 24).all (fun c => isCode c || c.before args0 about1) = true := by decide +kernel
theorem w_tables : (allAtoms (Jvm.Cond.code x code maxLocals ret :: tables_1)).before args0 about1 = true := by
  rw [allAtoms_all]
  show words1.all (fun c => c.before args0 about1) = true
  refine all_split ?_ w_codes
  rw [← List.take_append_drop 24 words1, List.all_append, w_t1, ← List.take_append_drop 24 (words1.drop 24), List.all_append, w_t2, w_t3]
  rfl
set_option maxRecDepth 65536 in
theorem w_case : (Jvm.Cond.and given_1 narrow_1).before args0 about1 = true := by decide +kernel
theorem w_applies : (headSpec (Jvm.Cond.code x code maxLocals ret :: tables_1) room_1).applies x e0.platform about1 = true :=
  (Spec.applies_iff w_frames).mpr ⟨w_running, w_runnable, w_alone, w_named, w_hears, w_ripe, w_room, w_tables⟩
theorem atStart : AtStart classFile x code maxLocals ret World_1 tables_1 room_1 Calls_1 rest_1 Pre_1 launch0 p0 e0 about1 theMethod args0 below0 :=
  ⟨lists_1, trivial, launch0.admits_env _ _ _, launch0.least_env, fairChoices_fair.cas, fairChoices_fair.clock, w_frames, w_args, w_heap, w_applies, trivial, trivial, w_case⟩
end start1
theorem witness_1 : WitnessClaimed_1 := ⟨start1.p0, start1.e0, start1.about1, start1.theMethod, start1.args0, start1.below0, start1.atStart⟩
end Jvm.Pilot.@@N@@
