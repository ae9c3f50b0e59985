import JvmDerived
import JvmDerived.Pilot.@@N@@Statement
import JvmDerived.Pilot.@@N@@Code
set_option linter.unusedVariables false
set_option linter.unusedSimpArgs false
namespace Jvm.RoadKit
open Sem ClassFile Op Lib Jvm.Stand Jvm.Free Jvm.LawKit
section New
variable {p : Program} {l : Launch} {e : Env} {R : Room} {s : State} {m : MethodId} {args : Array Value} {below : List Frame} {meth : Method} {c : Code} {T T' : State} {locs : List Loc} {cells slots : Nat}
theorem retI (X : Stand p l e R s m args below meth c T locs cells slots) (hx : p.tables.exec = Jvm.exec) {pc : Nat} {Ls : Array Slot} {z : Int32} {rest : List Value} (hret : meth.sig.returnType = some .int) (hd : decode c.code pc = .ok (.ireturn, 1)) {fs : List Frame}
    (hl : ∀ (f : JFrame) (acts : List Action), f.method = m → f.locked = none → f.entered = [] → (doReturn e (T.setTop f) acts (some (.int z))).1 = T.setFrames fs) : Steps p.tables e below (T.setTop (mkF m pc Ls (.int z :: rest))) (T.setFrames fs) := by
  have hm' : T.vm.method? m = some meth := X.method'
  have hn : narrow .int (.int z) = .int z := rfl
  show Steps p.tables e below (T.setTop { method := m, pc := pc, locals := Ls, stack := _ :: rest, locked := none }) _
  jvm_step X.here [X.here.top, hx, hd, hm', hret, hn]
  first | (intro acts; rw [hl _ acts rfl rfl rfl]) | rw [hl _ _ rfl rfl rfl]
  exact Steps.refl _
/-- from here the run comes to its return, and Q holds of what it returns, of the heap and of what it wrote -/
def Go (p : Program) (e : Env) (below : List Frame) (s : State) (Q : Option Value → Heap → List Loc → Prop) (kc ks : Nat) (T : State) (g : JFrame) : Prop :=
  ∃ s₂ o, Steps p.tables e below (T.setTop g) s₂ ∧ s₂.status = .running ∧ Ended s₂ below o ∧ ∃ v L, o = .returned v ∧ Q v s₂.heap L ∧ FrameEnd s o s₂ L kc ks
variable {Q : Option Value → Heap → List Loc → Prop} {kc ks : Nat} {g g' : JFrame}
theorem Go.step (h : ∀ t, Steps p.tables e below (T'.setTop g') t → Steps p.tables e below (T.setTop g) t) (k : Go p e below s Q kc ks T' g') : Go p e below s Q kc ks T g := by
  obtain ⟨s₂, o, h1, r⟩ := k
  exact ⟨s₂, o, h _ h1, r⟩
theorem Go.cast (q : g = g') (k : Go p e below s Q kc ks T g') : Go p e below s Q kc ks T g := q ▸ k
theorem Go.done (X : Stand p l e R s m args below meth c T locs cells slots) (hlocks : meth.locks = false) {v : Option Value} (hv : meth.sig.returnType = none → v = none)
    (hret : ∀ fs, (∀ (f : JFrame) (acts : List Action), f.method = m → f.locked = none → f.entered = [] → (doReturn e (T.setTop f) acts v).1 = T.setFrames fs) → Steps p.tables e below (T.setTop g) (T.setFrames fs))
    {h : Heap} (eT : T.heap = h) (hQ : Q v h locs) (hc : cells ≤ kc) (hs : slots ≤ ks) : Go p e below s Q kc ks T g := by
  obtain ⟨fs, hr, hrun, hended, hW, hsame⟩ := X.leave hv hlocks
  refine ⟨_, _, hret fs hr, hrun, hended, _, _, rfl, ?_, ⟨_, rfl⟩, hW, hsame.mono hc hs⟩
  show Q v T.heap locs
  rw [eT]
  exact hQ
theorem Go.retV (X : Stand p l e R s m args below meth c T locs cells slots) (hx : p.tables.exec = Jvm.exec) (hlocks : meth.locks = false) (hr : meth.sig.returnType = none) {pc : Nat} {Ls : Array Slot} (hd : decode c.code pc = .ok (.return_, 1))
    {h : Heap} (eT : T.heap = h) (hQ : Q none h locs) (hc : cells ≤ kc) (hs : slots ≤ ks) : Go p e below s Q kc ks T (mkF m pc Ls []) :=
  Go.done X hlocks (fun _ => rfl) (fun fs k => X.returnOut hx hr hd k) eT hQ hc hs
theorem Go.retN (X : Stand p l e R s m args below meth c T locs cells slots) (hx : p.tables.exec = Jvm.exec) (hlocks : meth.locks = false) {t : FieldType} (hr : meth.sig.returnType = some t) (ht : t = .boolean ∨ t = .byte ∨ t = .char ∨ t = .short) {pc : Nat} {Ls : Array Slot} {z : Int32} {st : List Value} (hd : decode c.code pc = .ok (.ireturn, 1))
    {h : Heap} (eT : T.heap = h) (hQ : Q (some (.int (nar t z))) h locs) (hc : cells ≤ kc) (hs : slots ≤ ks) : Go p e below s Q kc ks T (mkF m pc Ls (.int z :: st)) :=
  Go.done X hlocks (fun q => by rw [hr] at q; cases q) (fun fs k => Jvm.RoadKit.retN X hx hr ht hd k) eT hQ hc hs
theorem Go.retI (X : Stand p l e R s m args below meth c T locs cells slots) (hx : p.tables.exec = Jvm.exec) (hlocks : meth.locks = false) (hr : meth.sig.returnType = some .int) {pc : Nat} {Ls : Array Slot} {z : Int32} {st : List Value} (hd : decode c.code pc = .ok (.ireturn, 1))
    {h : Heap} (eT : T.heap = h) (hQ : Q (some (.int z)) h locs) (hc : cells ≤ kc) (hs : slots ≤ ks) : Go p e below s Q kc ks T (mkF m pc Ls (.int z :: st)) :=
  Go.done X hlocks (fun q => by rw [hr] at q; cases q) (fun fs k => Jvm.RoadKit.retI X hx hr hd k) eT hQ hc hs
theorem Go.retJ (X : Stand p l e R s m args below meth c T locs cells slots) (hx : p.tables.exec = Jvm.exec) (hlocks : meth.locks = false) (hr : meth.sig.returnType = some .long) {pc : Nat} {Ls : Array Slot} {z : Int64} {st : List Value} (hd : decode c.code pc = .ok (.lreturn, 1))
    {h : Heap} (eT : T.heap = h) (hQ : Q (some (.long z)) h locs) (hc : cells ≤ kc) (hs : slots ≤ ks) : Go p e below s Q kc ks T (mkF m pc Ls (.long z :: st)) :=
  Go.done X hlocks (fun q => by rw [hr] at q; cases q) (fun fs k => retOut X hx hr rfl (Or.inr (Or.inl ⟨rfl, rfl, _, rfl⟩)) hd k) eT hQ hc hs
theorem Go.retD (X : Stand p l e R s m args below meth c T locs cells slots) (hx : p.tables.exec = Jvm.exec) (hlocks : meth.locks = false) (hr : meth.sig.returnType = some .double) {pc : Nat} {Ls : Array Slot} {z : UInt64} {st : List Value} (hd : decode c.code pc = .ok (.dreturn, 1))
    {h : Heap} (eT : T.heap = h) (hQ : Q (some (.double z)) h locs) (hc : cells ≤ kc) (hs : slots ≤ ks) : Go p e below s Q kc ks T (mkF m pc Ls (.double z :: st)) :=
  Go.done X hlocks (fun q => by rw [hr] at q; cases q) (fun fs k => retOut X hx hr rfl (Or.inr (Or.inr (Or.inl ⟨rfl, rfl, _, rfl⟩))) hd k) eT hQ hc hs
theorem Go.retA (X : Stand p l e R s m args below meth c T locs cells slots) (hx : p.tables.exec = Jvm.exec) (hlocks : meth.locks = false) {t : FieldType} (hr : meth.sig.returnType = some t) (ht : t.isReference = true) {w : Value} (hw : w.isRef = true) {pc : Nat} {Ls : Array Slot} {st : List Value} (hd : decode c.code pc = .ok (.areturn, 1))
    {h : Heap} (eT : T.heap = h) (hQ : Q (some w) h locs) (hc : cells ≤ kc) (hs : slots ≤ ks) : Go p e below s Q kc ks T (mkF m pc Ls (w :: st)) :=
  Go.done X hlocks (fun q => by rw [hr] at q; cases q) (fun fs k => retOut X hx hr (by cases t <;> first | (cases ht; done) | (rcases ref_cases hw with rfl | ⟨a, rfl⟩ <;> rfl)) (Or.inr (Or.inr (Or.inr (Or.inr ⟨rfl, ht, hw⟩)))) hd k) eT hQ hc hs
/-- .. where String constants may have been loaded on the way -/
def GoW (p : Program) (e : Env) (below : List Frame) (s : State) (Q : Option Value → Heap → List Loc → Prop) (kc ks : Nat) (T : State) (g : JFrame) : Prop :=
  ∃ s₂ o, Steps p.tables e below (T.setTop g) s₂ ∧ s₂.status = .running ∧ Ended s₂ below o ∧ ∃ v L, o = .returned v ∧ Q v s₂.heap L ∧ ReturnedEndW s o s₂ L kc ks
theorem GoW.step (h : ∀ t, Steps p.tables e below (T'.setTop g') t → Steps p.tables e below (T.setTop g) t) (k : GoW p e below s Q kc ks T' g') : GoW p e below s Q kc ks T g := by
  obtain ⟨s₂, o, h1, r⟩ := k
  exact ⟨s₂, o, h _ h1, r⟩
theorem GoW.cast (q : g = g') (k : GoW p e below s Q kc ks T g') : GoW p e below s Q kc ks T g := q ▸ k
theorem GoW.done {vm1 : Vm} {n : Nat} (X : Stand p l e R (s.setVm vm1) m args below meth c T locs cells slots) (hS : s.Since vm1 n) (hlocks : meth.locks = false) {v : Option Value} (hv : meth.sig.returnType = none → v = none)
    (hret : ∀ fs, (∀ (f : JFrame) (acts : List Action), f.method = m → f.locked = none → f.entered = [] → (doReturn e (T.setTop f) acts v).1 = T.setFrames fs) → Steps p.tables e below (T.setTop g) (T.setFrames fs))
    {h : Heap} (eT : T.heap = h) (hn : n ≤ h.size) (hQ : Q v h locs) (hc : cells ≤ kc) (hs : slots ≤ ks) : GoW p e below s Q kc ks T g := by
  obtain ⟨fs, hr, hrun, hended, hW⟩ := X.leaveW hS (by rw [eT]; exact hn) hv hlocks
  refine ⟨_, _, hret fs hr, hrun, hended, _, _, rfl, ?_, hW.1, hW.2.1, hW.2.2.1, hW.2.2.2.mono hc hs⟩
  show Q v T.heap locs
  rw [eT]
  exact hQ
theorem GoW.retV {vm1 : Vm} {n : Nat} (X : Stand p l e R (s.setVm vm1) m args below meth c T locs cells slots) (hS : s.Since vm1 n) (hx : p.tables.exec = Jvm.exec) (hlocks : meth.locks = false) (hr : meth.sig.returnType = none) {pc : Nat} {Ls : Array Slot} (hd : decode c.code pc = .ok (.return_, 1))
    {h : Heap} (eT : T.heap = h) (hn : n ≤ h.size) (hQ : Q none h locs) (hc : cells ≤ kc) (hs : slots ≤ ks) : GoW p e below s Q kc ks T (mkF m pc Ls []) :=
  GoW.done X hS hlocks (fun _ => rfl) (fun fs k => X.returnOut hx hr hd k) eT hn hQ hc hs
theorem GoW.retN {vm1 : Vm} {n : Nat} (X : Stand p l e R (s.setVm vm1) m args below meth c T locs cells slots) (hS : s.Since vm1 n) (hx : p.tables.exec = Jvm.exec) (hlocks : meth.locks = false) {t : FieldType} (hr : meth.sig.returnType = some t) (ht : t = .boolean ∨ t = .byte ∨ t = .char ∨ t = .short) {pc : Nat} {Ls : Array Slot} {z : Int32} {st : List Value} (hd : decode c.code pc = .ok (.ireturn, 1))
    {h : Heap} (eT : T.heap = h) (hn : n ≤ h.size) (hQ : Q (some (.int (nar t z))) h locs) (hc : cells ≤ kc) (hs : slots ≤ ks) : GoW p e below s Q kc ks T (mkF m pc Ls (.int z :: st)) :=
  GoW.done X hS hlocks (fun q => by rw [hr] at q; cases q) (fun fs k => Jvm.RoadKit.retN X hx hr ht hd k) eT hn hQ hc hs
theorem GoW.retI {vm1 : Vm} {n : Nat} (X : Stand p l e R (s.setVm vm1) m args below meth c T locs cells slots) (hS : s.Since vm1 n) (hx : p.tables.exec = Jvm.exec) (hlocks : meth.locks = false) (hr : meth.sig.returnType = some .int) {pc : Nat} {Ls : Array Slot} {z : Int32} {st : List Value} (hd : decode c.code pc = .ok (.ireturn, 1))
    {h : Heap} (eT : T.heap = h) (hn : n ≤ h.size) (hQ : Q (some (.int z)) h locs) (hc : cells ≤ kc) (hs : slots ≤ ks) : GoW p e below s Q kc ks T (mkF m pc Ls (.int z :: st)) :=
  GoW.done X hS hlocks (fun q => by rw [hr] at q; cases q) (fun fs k => Jvm.RoadKit.retI X hx hr hd k) eT hn hQ hc hs
theorem GoW.retJ {vm1 : Vm} {n : Nat} (X : Stand p l e R (s.setVm vm1) m args below meth c T locs cells slots) (hS : s.Since vm1 n) (hx : p.tables.exec = Jvm.exec) (hlocks : meth.locks = false) (hr : meth.sig.returnType = some .long) {pc : Nat} {Ls : Array Slot} {z : Int64} {st : List Value} (hd : decode c.code pc = .ok (.lreturn, 1))
    {h : Heap} (eT : T.heap = h) (hn : n ≤ h.size) (hQ : Q (some (.long z)) h locs) (hc : cells ≤ kc) (hs : slots ≤ ks) : GoW p e below s Q kc ks T (mkF m pc Ls (.long z :: st)) :=
  GoW.done X hS hlocks (fun q => by rw [hr] at q; cases q) (fun fs k => retOut X hx hr rfl (Or.inr (Or.inl ⟨rfl, rfl, _, rfl⟩)) hd k) eT hn hQ hc hs
theorem GoW.retA {vm1 : Vm} {n : Nat} (X : Stand p l e R (s.setVm vm1) m args below meth c T locs cells slots) (hS : s.Since vm1 n) (hx : p.tables.exec = Jvm.exec) (hlocks : meth.locks = false) {t : FieldType} (hr : meth.sig.returnType = some t) (ht : t.isReference = true) {w : Value} (hw : w.isRef = true) {pc : Nat} {Ls : Array Slot} {st : List Value} (hd : decode c.code pc = .ok (.areturn, 1))
    {h : Heap} (eT : T.heap = h) (hn : n ≤ h.size) (hQ : Q (some w) h locs) (hc : cells ≤ kc) (hs : slots ≤ ks) : GoW p e below s Q kc ks T (mkF m pc Ls (w :: st)) :=
  GoW.done X hS hlocks (fun q => by rw [hr] at q; cases q) (fun fs k => retOut X hx hr (by cases t <;> first | (cases ht; done) | (rcases ref_cases hw with rfl | ⟨a, rfl⟩ <;> rfl)) (Or.inr (Or.inr (Or.inr (Or.inr ⟨rfl, ht, hw⟩)))) hd k) eT hn hQ hc hs
end New
end Jvm.RoadKit
namespace Jvm.Pilot.@@N@@
open Jvm Jvm.ClassFile Sem Op Lib Jvm.Free Jvm.Stand Jvm.LawKit Jvm.RoadKit Bundle Jvm.Pilot.@@N@@.Jvm.D
theorem own_selP {s : State} {args : Array Value} {y : MethodName} {n : Nat} (wi : (Cond.instantiable y.cls n).before args s = true) (hp : s.PrivateAt y) (hinst : (Cond.instanceMethod y).before args s = true) (hy : y.cls ≠ "java/lang/invoke/MethodHandle" ∧ y.cls ≠ "java/lang/invoke/VarHandle") : (Cond.selects y.cls y y).before args s = true := by
  obtain ⟨c, k, h1, h2, -, h4, -⟩ := Cond.instantiable_spec wi
  exact Jvm.Stand.selects_self_of_private h1 h2 (by simp only [Bool.or_eq_false_iff] at h4; exact h4.1) hp hinst hy
theorem own_selQ {s : State} {args : Array Value} {y : MethodName} {C : String} (w : (Cond.selects C y y).before args s = true) (hp : s.PrivateAt y) (hinst : (Cond.instanceMethod y).before args s = true) (hy : y.cls ≠ "java/lang/invoke/MethodHandle" ∧ y.cls ≠ "java/lang/invoke/VarHandle") : (Cond.selects y.cls y y).before args s = true := by
  obtain ⟨mk, methM, hnamed, -, -, -⟩ := Cond.instanceMethod_spec hinst
  obtain ⟨kr, h1, h2⟩ := notFace_of_selects w mk hnamed
  exact Jvm.Stand.selects_self_of_private (findClass_of_methodNamed hnamed) h1 h2 hp hinst hy
abbrev own_gcN : MethodName := ⟨"java/lang/Object", "getClass", "()Ljava/lang/Class;"⟩
theorem own_mvI {Z s : State} {a0 args : Array Value} {r o n d : String} (hZ : Z.Warmed39 s.vm) (w : (Cond.interfaceMethod r o n d).before a0 Z = true) : (Cond.interfaceMethod r o n d).before args s = true := by
  obtain ⟨c, k, m, h1, h2, h3, h4, h5⟩ := Cond.interfaceMethod_spec w
  have hal := hZ.alike
  obtain ⟨k', q, ek⟩ := hal.2.2 _ _ h2
  have g1 : s.vm.findClass r = some c := by rw [hal.findClass]; exact h1
  have g4 : s.methodFound? r n d = some m := by
    have z := State.methodFound?_setVm (s := Z) hal r n d
    rw [h4] at z; exact z
  have g5 : s.methodNamed? ⟨o, n, d⟩ = some m := by
    have z : (Z.setVm s.vm).methodNamed? ⟨o, n, d⟩ = some m := by rw [State.methodNamed?_setVm hal]; exact h5
    exact z
  have g3 : k'.isInterface = true := by rw [ek]; exact h3
  simp [Cond.before, Cond.holds, Cond.value, g1, g4, g5, q, g3]
section OwnM
variable {p : Program} {l : Launch} {e : Env} {R : Room} {s : State} {m : MethodId} {args : Array Value} {below : List Frame} {meth : Method} {c : Code} {T : State} {locs : List Loc} {cells slots : Nat} {Z : State} {a0 : Array Value} {h : Heap} {a mr : Addr}
theorem own_gcV (X : Stand p l e R s m args below meth c T locs cells slots) (hx : p.tables.exec = Jvm.exec) (hZ : Z.Warmed39 s.vm) {own C : String} {index : Nat} (hown : s.vm.findClass own = some m.cls)
    (w1 : (Cond.methodLink own index own_gcN).before a0 Z = true) (w2 : (Cond.declares own_gcN).before a0 Z = true) (w4 : (Cond.selects C own_gcN own_gcN).before a0 Z = true)
    (w5 : (Cond.instanceMethod own_gcN).before a0 Z = true) (w6 : (Cond.native own_gcN).before a0 Z = true) (eT : T.heap = h) (E : Exa Z h a C) (M : Mir Z C mr)
    {g : JFrame} (hg : g.method = m) (hsize : g.locals.size = c.maxLocals) {rest : List Value} (hs : g.stack = .ref a :: rest) (hd : decode c.code g.pc = .ok (.invokevirtual index, 3)) (hf : 1 ≤ R.frames) {W : Nat} (hW : 2 * g.monitorRoom + (rest.map fun v => v.category).sum ≤ W) (hl : W + (nativeFrameWords "java/lang/Object" "getClass" 1 + 11) ≤ R.locals) :
    ∃ T', Stand p l e R s m args below meth c T' locs cells slots ∧ T'.heap = h ∧ ∀ target, Steps p.tables e below (T'.setTop { g with pc := g.pc + 3, stack := .ref mr :: rest }) target → Steps p.tables e below (T.setTop g) target := by
  obtain ⟨cB, kB, i1, i2, i3⟩ := isOf hZ eT E
  obtain ⟨cc, kc, m1, m2, m3, -⟩ := M
  rw [hZ.alike.findClass] at i1
  cases i1.symm.trans m1
  obtain ⟨k', q, ek⟩ := hZ.alike.2.2 _ _ m2
  obtain ⟨vm', X', st⟩ := X.getClassOf hx hown (mvT hZ w1) (mvT hZ w2) (notFace_of_selects (args := #[]) (mvT hZ w4)) (mvT hZ w4) (mvT hZ w5) (mvT hZ w6) (by rw [hZ.alike.findClass]; exact m1) i3 q (by rw [ek]; exact m3) hg hsize hs hd hf (by omega)
  exact ⟨_, X', eT, st⟩
theorem own_gcI (X : Stand p l e R s m args below meth c T locs cells slots) (hx : p.tables.exec = Jvm.exec) (hZ : Z.Warmed39 s.vm) {own C : String} {index count : Nat} (hown : s.vm.findClass own = some m.cls)
    (w1 : (Cond.methodLink own index ⟨"java/util/Collection", "getClass", "()Ljava/lang/Class;"⟩).before a0 Z = true) (w2 : (Cond.declares own_gcN).before a0 Z = true) (w3 : (Cond.interfaceMethod "java/util/Collection" "java/lang/Object" "getClass" "()Ljava/lang/Class;").before a0 Z = true) (w4 : (Cond.selects C ⟨"java/util/Collection", "getClass", "()Ljava/lang/Class;"⟩ own_gcN).before a0 Z = true)
    (w5 : (Cond.instanceMethod own_gcN).before a0 Z = true) (w7 : (Cond.publicMethod own_gcN).before a0 Z = true) (w8 : (Cond.unhidden C "getClass" "()Ljava/lang/Class;").before a0 Z = true) (w9 : (Cond.castable C "java/util/Collection").before a0 Z = true) (w6 : (Cond.native own_gcN).before a0 Z = true)
    (eT : T.heap = h) (E : Exa Z h a C) (M : Mir Z C mr)
    {g : JFrame} (hg : g.method = m) (hsize : g.locals.size = c.maxLocals) {rest : List Value} (hs : g.stack = .ref a :: rest) (hd : decode c.code g.pc = .ok (.invokeinterface index count, 5)) (hf : 1 ≤ R.frames) {W : Nat} (hW : 2 * g.monitorRoom + (rest.map fun v => v.category).sum ≤ W) (hl : W + (nativeFrameWords "java/lang/Object" "getClass" 1 + 11) ≤ R.locals) :
    ∃ T', Stand p l e R s m args below meth c T' locs cells slots ∧ T'.heap = h ∧ ∀ target, Steps p.tables e below (T'.setTop { g with pc := g.pc + 5, stack := .ref mr :: rest }) target → Steps p.tables e below (T.setTop g) target := by
  obtain ⟨cB, kB, i1, i2, i3⟩ := isOf hZ eT E
  obtain ⟨cc, kc, m1, m2, m3, -⟩ := M
  have i1' := i1
  rw [hZ.alike.findClass] at i1'
  cases i1'.symm.trans m1
  obtain ⟨k', q, ek⟩ := hZ.alike.2.2 _ _ m2
  cases i2.symm.trans q
  obtain ⟨vm', X', st⟩ := X.getClassOfI hx (xi := ⟨"java/util/Collection", "getClass", "()Ljava/lang/Class;"⟩) hown (mvT hZ w1) (mvT hZ w2) (own_mvI hZ w3) (mvT hZ w4) (mvT hZ w5) (mvT hZ w7) (mvT hZ w8) (mvT hZ w9) (mvT hZ w6) (by decide) (by decide) rfl rfl i1 i2 i3 (by rw [ek]; exact m3) hg hsize hs hd hf (by omega)
  exact ⟨_, X', eT, st⟩
theorem own_ldcM (X : Stand p l e R s m args below meth c T locs cells slots) (hx : p.tables.exec = Jvm.exec) (hZ : Z.Warmed39 s.vm) {own C : String} {index : Nat} (hown : s.vm.findClass own = some m.cls) (w : (Cond.classLink own index C).before a0 Z = true) (eT : T.heap = h) (M : Mir Z C mr)
    {g : JFrame} (hg : g.method = m) (hd : decode c.code g.pc = .ok (.ldc index, 2)) :
    ∃ T', Stand p l e R s m args below meth c T' locs cells slots ∧ T'.heap = h ∧ ∀ target, Steps p.tables e below (T'.setTop { g with pc := g.pc + 2, stack := .ref mr :: g.stack }) target → Steps p.tables e below (T.setTop g) target := by
  obtain ⟨cc, kc, m1, m2, m3, -⟩ := M
  obtain ⟨k', q, ek⟩ := hZ.alike.2.2 _ _ m2
  have f : s.vm.findClass C = some cc := by rw [hZ.alike.findClass]; exact m1
  obtain ⟨vm', X', st⟩ := X.ldcMirror hx hown (mv hZ w) (C := C) (a := mr) (by simp only [Term.eval, f, q, Option.bind_eq_bind, Option.bind_some, Option.map_some]; rw [ek]; simp [m3]) hg hd
  exact ⟨_, X', eT, st⟩
end OwnM
theorem own_getR {p : Program} {l : Launch} {e : Env} {R : Room} {s : State} {m : MethodId} {args : Array Value} {below : List Frame} {meth : Method} {c : Code} {T : State} {locs : List Loc} {cells slots : Nat} {Z : State} {a0 : Array Value} {h : Heap}
    (X : Stand p l e R s m args below meth c T locs cells slots) (hx : p.tables.exec = Jvm.exec) (hZ : Z.Warmed39 s.vm) {own O n d : String} {index : Nat} (hown : s.vm.findClass own = some m.cls) (w : (Cond.fieldRef own index O n d).before a0 Z = true)
    (eT : T.heap = h) {a : Addr} {v : Value} (F : Fld Z h a O n d v) {g : JFrame} (hg : g.method = m) {rest : List Value} (hs : g.stack = .ref a :: rest) (hd : decode c.code g.pc = .ok (.getfield index, 3)) : ∃ T', Stand p l e R s m args below meth c T' locs cells slots ∧ T'.heap = h ∧ ∀ target, Steps p.tables e below (T'.setTop { g with pc := g.pc + 3, stack := v :: rest }) target → Steps p.tables e below (T.setTop g) target := by
  obtain ⟨cell, cf, k, i, f, h1, h2, h3, h4, -, -, h7⟩ := F
  have hT : Z.Warmed39 T.vm := wtrans hZ X.warmed
  have wT := Cond.fieldRef_warmed39 (args := a0) hT w
  have hcur : (Z.setVm T.vm).vm.findClass own = some m.cls := by
    show T.vm.findClass own = some m.cls
    rw [X.warmed.alike.findClass]; exact hown
  obtain ⟨c2, k2, i2, f2, q1, q2⟩ := Cond.fieldRef_spec hcur wT
  obtain ⟨k', hi, -⟩ := State.fieldFound?_setVm (s := Z) hT.alike h2
  have e4 := hi.symm.trans q1
  simp only [Option.some.injEq, Prod.mk.injEq] at e4
  obtain ⟨rfl, -, rfl, rfl⟩ := e4
  refine ⟨T, X, eT, fun target hrest => ?_⟩
  subst hg
  jvm_step X.here [hx, hd, getfield.wp_ready (e := e) (s := T) (f := g) X.here.top q2 h3 hs (by rw [eT]; exact h1) h4 h7]
  exact hrest
def own_cp (vd : List Value) (dp : Int32) (vs : List Value) (sp nn : Int32) (dv : Value) : List Value := vd.take dp.toNatClampNeg ++ ((List.range nn.toNatClampNeg).map fun i => vs.getD (sp.toNatClampNeg + i) dv) ++ vd.drop (dp.toNatClampNeg + nn.toNatClampNeg)
def own_rep (n : Int32) (dv : Value) : List Value := List.replicate n.toNatClampNeg dv
abbrev own_I (d : Int32) : Prop := d = 1 ∨ d = 2 ∨ d = 3 ∨ d = 4
abbrev own_O (d : Int32) : Prop := d = 2 ∨ d = 3 ∨ d = 4 ∨ d = 5
abbrev own_D (a d : Int32) : Prop := (a = 1 ∧ d = 2) ∨ (a = 1 ∧ d = 3) ∨ (a = 1 ∧ d = 4) ∨ (a = 1 ∧ d = 5) ∨ (a = 2 ∧ d = 3) ∨ (a = 2 ∧ d = 4) ∨ (a = 2 ∧ d = 5) ∨ (a = 3 ∧ d = 4) ∨ (a = 3 ∧ d = 5) ∨ (a = 4 ∧ d = 5)
abbrev own_K (hg hot : Addr) (kk : Int32) : Prop := (hg = hot ∧ kk = 2) ∨ (hg ≠ hot ∧ kk = 3)
def own_nit (a d x : Int32) : Int32 := if x < a then 0 else if x < d then 1 else 0
theorem own_nit0 {a d x : Int32} (h : x < a) : some (Value.int (nar .boolean (0 : Int32))) = some (.int (own_nit a d x)) := by unfold own_nit; rw [if_pos h]; rfl
theorem own_nit1 {a d x : Int32} (h : ¬ x < a) (q : x < d) : some (Value.int (nar .boolean (1 : Int32))) = some (.int (own_nit a d x)) := by unfold own_nit; rw [if_neg h, if_pos q]; rfl
theorem own_nit2 {a d x : Int32} (h : ¬ x < a) (q : ¬ x < d) : some (Value.int (nar .boolean (0 : Int32))) = some (.int (own_nit a d x)) := by unfold own_nit; rw [if_neg h, if_neg q]; rfl
theorem own_split (b : BitVec 32) (h : b.toNat < 4) : b = 0#32 ∨ b = 1#32 ∨ b = 2#32 ∨ b = 3#32 := by
  have : b.toNat = 0 ∨ b.toNat = 1 ∨ b.toNat = 2 ∨ b.toNat = 3 := by omega
  rcases this with q | q | q | q
  · exact Or.inl (BitVec.eq_of_toNat_eq q)
  · exact Or.inr (Or.inl (BitVec.eq_of_toNat_eq q))
  · exact Or.inr (Or.inr (Or.inl (BitVec.eq_of_toNat_eq q)))
  · exact Or.inr (Or.inr (Or.inr (BitVec.eq_of_toNat_eq q)))
theorem own_m3 (x : Int32) : (x &&& 3) = 0 ∨ (x &&& 3) = 1 ∨ (x &&& 3) = 2 ∨ (x &&& 3) = 3 := by
  have h : (x &&& 3).toBitVec.toNat < 4 := by
    rw [Int32.toBitVec_and, BitVec.toNat_and]
    exact Nat.lt_succ_of_le Nat.and_le_right
  rcases own_split _ h with q | q | q | q
  · exact Or.inl (Int32.toBitVec_inj.mp q)
  · exact Or.inr (Or.inl (Int32.toBitVec_inj.mp q))
  · exact Or.inr (Or.inr (Or.inl (Int32.toBitVec_inj.mp q)))
  · exact Or.inr (Or.inr (Or.inr (Int32.toBitVec_inj.mp q)))
theorem own_ar (x : Int32) : own_I (1 + (x &&& 3)) := by
  rcases own_m3 x with q | q | q | q <;> rw [q] <;> decide
theorem own_nz {a : Int32} (h : own_I a) : (5 : Int32) - a ≠ 0 := by rcases h with rfl | rfl | rfl | rfl <;> decide
theorem own_pos (x : Int32) : 0 ≤ (x &&& 2147483647).toInt := by
  have h : (x &&& 2147483647).toBitVec.toNat < 2 ^ 31 := by
    rw [Int32.toBitVec_and, BitVec.toNat_and]
    exact Nat.lt_of_le_of_lt Nat.and_le_right (by decide)
  show 0 ≤ (x &&& 2147483647).toBitVec.toInt
  rw [BitVec.toInt_eq_toNat_of_lt (by omega)]
  exact Int.natCast_nonneg _
theorem own_md (x k : Int32) (n : Nat) (hk : k.toInt = (n : Int)) (hn : 0 < n) (h4 : n ≤ 4) : ∃ i : Nat, i < n ∧ ((x &&& 2147483647) % k) = Int32.ofNat i := by
  have hp := own_pos x
  have e : ((x &&& 2147483647) % k).toInt = (x &&& 2147483647).toInt % (n : Int) := by
    rw [Int32.toInt_mod, hk, Int.tmod_eq_emod_of_nonneg hp]
  have h1 := Int.emod_nonneg (x &&& 2147483647).toInt (show (n : Int) ≠ 0 by omega)
  have h2 := Int.emod_lt_of_pos (x &&& 2147483647).toInt (show (0 : Int) < (n : Int) by omega)
  refine ⟨((x &&& 2147483647).toInt % (n : Int)).toNat, by omega, ?_⟩
  apply Int32.toInt_inj.mp
  rw [e, Int32.toInt_ofNat_of_lt (by omega)]
  omega
theorem own_dp {a : Int32} (h : own_I a) (x : Int32) : own_D a ((a + (1 : Int32)) + ((x &&& (2147483647 : Int32)) % ((5 : Int32) - a))) := by
  rcases h with rfl | rfl | rfl | rfl
  · obtain ⟨i, hi, q⟩ := own_md x ((5 : Int32) - 1) 4 (by decide) (by decide) (by decide)
    rw [q]
    match i, hi with
    | 0, _ => decide
    | 1, _ => decide
    | 2, _ => decide
    | 3, _ => decide
  · obtain ⟨i, hi, q⟩ := own_md x ((5 : Int32) - 2) 3 (by decide) (by decide) (by decide)
    rw [q]
    match i, hi with
    | 0, _ => decide
    | 1, _ => decide
    | 2, _ => decide
  · obtain ⟨i, hi, q⟩ := own_md x ((5 : Int32) - 3) 2 (by decide) (by decide) (by decide)
    rw [q]
    match i, hi with
    | 0, _ => decide
    | 1, _ => decide
  · obtain ⟨i, hi, q⟩ := own_md x ((5 : Int32) - 4) 1 (by decide) (by decide) (by decide)
    rw [q]
    match i, hi with
    | 0, _ => decide
theorem own_hc0 {a d : Int32} (h : own_D a d) : ¬ a < (1 : Int32) := by rcases h with ⟨rfl, rfl⟩ | ⟨rfl, rfl⟩ | ⟨rfl, rfl⟩ | ⟨rfl, rfl⟩ | ⟨rfl, rfl⟩ | ⟨rfl, rfl⟩ | ⟨rfl, rfl⟩ | ⟨rfl, rfl⟩ | ⟨rfl, rfl⟩ | ⟨rfl, rfl⟩ <;> decide
theorem own_hc1 {a d : Int32} (h : own_D a d) : ¬ (4 : Int32) < a := by rcases h with ⟨rfl, rfl⟩ | ⟨rfl, rfl⟩ | ⟨rfl, rfl⟩ | ⟨rfl, rfl⟩ | ⟨rfl, rfl⟩ | ⟨rfl, rfl⟩ | ⟨rfl, rfl⟩ | ⟨rfl, rfl⟩ | ⟨rfl, rfl⟩ | ⟨rfl, rfl⟩ <;> decide
theorem own_hc2 {a d : Int32} (h : own_D a d) : a < d := by rcases h with ⟨rfl, rfl⟩ | ⟨rfl, rfl⟩ | ⟨rfl, rfl⟩ | ⟨rfl, rfl⟩ | ⟨rfl, rfl⟩ | ⟨rfl, rfl⟩ | ⟨rfl, rfl⟩ | ⟨rfl, rfl⟩ | ⟨rfl, rfl⟩ | ⟨rfl, rfl⟩ <;> decide
theorem own_hc3 {a d : Int32} (h : own_D a d) : ¬ (5 : Int32) < d := by rcases h with ⟨rfl, rfl⟩ | ⟨rfl, rfl⟩ | ⟨rfl, rfl⟩ | ⟨rfl, rfl⟩ | ⟨rfl, rfl⟩ | ⟨rfl, rfl⟩ | ⟨rfl, rfl⟩ | ⟨rfl, rfl⟩ | ⟨rfl, rfl⟩ | ⟨rfl, rfl⟩ <;> decide
theorem own_hO {a d : Int32} (h : own_D a d) : own_O d := by rcases h with ⟨rfl, rfl⟩ | ⟨rfl, rfl⟩ | ⟨rfl, rfl⟩ | ⟨rfl, rfl⟩ | ⟨rfl, rfl⟩ | ⟨rfl, rfl⟩ | ⟨rfl, rfl⟩ | ⟨rfl, rfl⟩ | ⟨rfl, rfl⟩ | ⟨rfl, rfl⟩ <;> decide
theorem own_n {ar dp : Int32} (h : own_D ar dp) : (ar < dp ∧ ¬ (ar + (1 : Int32)) < dp) ∨ (ar < dp ∧ (ar + (1 : Int32)) < dp ∧ own_I (ar + (1 : Int32)) ∧ ¬ ((ar + (1 : Int32)) + (1 : Int32)) < dp) ∨ (ar < dp ∧ (ar + (1 : Int32)) < dp ∧ ((ar + (1 : Int32)) + (1 : Int32)) < dp ∧ own_I (ar + (1 : Int32)) ∧ own_I ((ar + (1 : Int32)) + (1 : Int32)) ∧ ¬ (((ar + (1 : Int32)) + (1 : Int32)) + (1 : Int32)) < dp) ∨ (ar < dp ∧ (ar + (1 : Int32)) < dp ∧ ((ar + (1 : Int32)) + (1 : Int32)) < dp ∧ (((ar + (1 : Int32)) + (1 : Int32)) + (1 : Int32)) < dp ∧ own_I (ar + (1 : Int32)) ∧ own_I ((ar + (1 : Int32)) + (1 : Int32)) ∧ own_I (((ar + (1 : Int32)) + (1 : Int32)) + (1 : Int32)) ∧ ¬ ((((ar + (1 : Int32)) + (1 : Int32)) + (1 : Int32)) + (1 : Int32)) < dp) := by rcases h with ⟨rfl, rfl⟩ | ⟨rfl, rfl⟩ | ⟨rfl, rfl⟩ | ⟨rfl, rfl⟩ | ⟨rfl, rfl⟩ | ⟨rfl, rfl⟩ | ⟨rfl, rfl⟩ | ⟨rfl, rfl⟩ | ⟨rfl, rfl⟩ | ⟨rfl, rfl⟩ <;> decide
theorem own_ltI {a b : Int32} : a < b ↔ a.toInt < b.toInt := Int32.lt_iff_toInt_lt
theorem own_d4 {x : Int32} (h1 : ¬ x < (1 : Int32)) (h2 : ¬ (4 : Int32) < x) : own_I x := by
  rw [own_ltI] at h1 h2
  have h1' : ¬ x.toInt < 1 := h1
  have h2' : ¬ 4 < x.toInt := h2
  show x = 1 ∨ x = 2 ∨ x = 3 ∨ x = 4
  simp only [← Int32.toInt_inj]
  show x.toInt = 1 ∨ x.toInt = 2 ∨ x.toInt = 3 ∨ x.toInt = 4
  omega
theorem own_ltT {a b c : Int32} (h1 : a < b) (h2 : b < c) : a < c := by
  rw [own_ltI] at *
  omega
theorem own_nlo {a d x : Int32} (h : own_D a d) (q : x < (1 : Int32)) : own_nit a d x = (0 : Int32) := by
  unfold own_nit
  rw [if_pos]
  have := own_hc0 h
  rw [own_ltI] at *
  omega
theorem own_nhi {a d x : Int32} (h : own_D a d) (q : (4 : Int32) < x) : own_nit a d x = (0 : Int32) := by
  have h3 := own_hc3 h
  have h2 : ¬ x < d := by
    rw [own_ltI] at *
    have q' : (4 : Int) < x.toInt := q
    have h3' : ¬ (5 : Int) < d.toInt := h3
    omega
  unfold own_nit
  by_cases w : x < a
  · rw [if_pos w]
  · rw [if_neg w, if_neg h2]
theorem own_yes0 {ar dp p4 : Int32} (h : own_D ar dp) (hj : p4 = ar) (hl : ar < dp) : own_nit ar dp p4 = (1 : Int32) := by subst hj; rcases h with ⟨rfl, rfl⟩ | ⟨rfl, rfl⟩ | ⟨rfl, rfl⟩ | ⟨rfl, rfl⟩ | ⟨rfl, rfl⟩ | ⟨rfl, rfl⟩ | ⟨rfl, rfl⟩ | ⟨rfl, rfl⟩ | ⟨rfl, rfl⟩ | ⟨rfl, rfl⟩ <;> revert hl <;> decide
theorem own_yes1 {ar dp p4 : Int32} (h : own_D ar dp) (hj : p4 = (ar + (1 : Int32))) (hl : (ar + (1 : Int32)) < dp) : own_nit ar dp p4 = (1 : Int32) := by subst hj; rcases h with ⟨rfl, rfl⟩ | ⟨rfl, rfl⟩ | ⟨rfl, rfl⟩ | ⟨rfl, rfl⟩ | ⟨rfl, rfl⟩ | ⟨rfl, rfl⟩ | ⟨rfl, rfl⟩ | ⟨rfl, rfl⟩ | ⟨rfl, rfl⟩ | ⟨rfl, rfl⟩ <;> revert hl <;> decide
theorem own_yes2 {ar dp p4 : Int32} (h : own_D ar dp) (hj : p4 = ((ar + (1 : Int32)) + (1 : Int32))) (hl : ((ar + (1 : Int32)) + (1 : Int32)) < dp) : own_nit ar dp p4 = (1 : Int32) := by subst hj; rcases h with ⟨rfl, rfl⟩ | ⟨rfl, rfl⟩ | ⟨rfl, rfl⟩ | ⟨rfl, rfl⟩ | ⟨rfl, rfl⟩ | ⟨rfl, rfl⟩ | ⟨rfl, rfl⟩ | ⟨rfl, rfl⟩ | ⟨rfl, rfl⟩ | ⟨rfl, rfl⟩ <;> revert hl <;> decide
theorem own_yes3 {ar dp p4 : Int32} (h : own_D ar dp) (hj : p4 = (((ar + (1 : Int32)) + (1 : Int32)) + (1 : Int32))) (hl : (((ar + (1 : Int32)) + (1 : Int32)) + (1 : Int32)) < dp) : own_nit ar dp p4 = (1 : Int32) := by subst hj; rcases h with ⟨rfl, rfl⟩ | ⟨rfl, rfl⟩ | ⟨rfl, rfl⟩ | ⟨rfl, rfl⟩ | ⟨rfl, rfl⟩ | ⟨rfl, rfl⟩ | ⟨rfl, rfl⟩ | ⟨rfl, rfl⟩ | ⟨rfl, rfl⟩ | ⟨rfl, rfl⟩ <;> revert hl <;> decide
theorem own_no1 {ar dp p4 : Int32} (h : own_D ar dp) (hd : own_I p4) (hj0 : ¬ p4 = ar) (hl : ¬ (ar + (1 : Int32)) < dp) : own_nit ar dp p4 = (0 : Int32) := by rcases h with ⟨rfl, rfl⟩ | ⟨rfl, rfl⟩ | ⟨rfl, rfl⟩ | ⟨rfl, rfl⟩ | ⟨rfl, rfl⟩ | ⟨rfl, rfl⟩ | ⟨rfl, rfl⟩ | ⟨rfl, rfl⟩ | ⟨rfl, rfl⟩ | ⟨rfl, rfl⟩ <;> rcases hd with rfl | rfl | rfl | rfl <;> revert hj0 hl <;> decide
theorem own_no2 {ar dp p4 : Int32} (h : own_D ar dp) (hd : own_I p4) (hj0 : ¬ p4 = ar) (hj1 : ¬ p4 = (ar + (1 : Int32))) (hl : ¬ ((ar + (1 : Int32)) + (1 : Int32)) < dp) : own_nit ar dp p4 = (0 : Int32) := by rcases h with ⟨rfl, rfl⟩ | ⟨rfl, rfl⟩ | ⟨rfl, rfl⟩ | ⟨rfl, rfl⟩ | ⟨rfl, rfl⟩ | ⟨rfl, rfl⟩ | ⟨rfl, rfl⟩ | ⟨rfl, rfl⟩ | ⟨rfl, rfl⟩ | ⟨rfl, rfl⟩ <;> rcases hd with rfl | rfl | rfl | rfl <;> revert hj0 hj1 hl <;> decide
theorem own_no3 {ar dp p4 : Int32} (h : own_D ar dp) (hd : own_I p4) (hj0 : ¬ p4 = ar) (hj1 : ¬ p4 = (ar + (1 : Int32))) (hj2 : ¬ p4 = ((ar + (1 : Int32)) + (1 : Int32))) (hl : ¬ (((ar + (1 : Int32)) + (1 : Int32)) + (1 : Int32)) < dp) : own_nit ar dp p4 = (0 : Int32) := by rcases h with ⟨rfl, rfl⟩ | ⟨rfl, rfl⟩ | ⟨rfl, rfl⟩ | ⟨rfl, rfl⟩ | ⟨rfl, rfl⟩ | ⟨rfl, rfl⟩ | ⟨rfl, rfl⟩ | ⟨rfl, rfl⟩ | ⟨rfl, rfl⟩ | ⟨rfl, rfl⟩ <;> rcases hd with rfl | rfl | rfl | rfl <;> revert hj0 hj1 hj2 hl <;> decide
theorem own_no4 {ar dp p4 : Int32} (h : own_D ar dp) (hd : own_I p4) (hj0 : ¬ p4 = ar) (hj1 : ¬ p4 = (ar + (1 : Int32))) (hj2 : ¬ p4 = ((ar + (1 : Int32)) + (1 : Int32))) (hj3 : ¬ p4 = (((ar + (1 : Int32)) + (1 : Int32)) + (1 : Int32))) (hl : (((ar + (1 : Int32)) + (1 : Int32)) + (1 : Int32)) < dp) : False := by rcases h with ⟨rfl, rfl⟩ | ⟨rfl, rfl⟩ | ⟨rfl, rfl⟩ | ⟨rfl, rfl⟩ | ⟨rfl, rfl⟩ | ⟨rfl, rfl⟩ | ⟨rfl, rfl⟩ | ⟨rfl, rfl⟩ | ⟨rfl, rfl⟩ | ⟨rfl, rfl⟩ <;> rcases hd with rfl | rfl | rfl | rfl <;> revert hj0 hj1 hj2 hj3 hl <;> decide

section OwnT
variable {Z : State} {els : List Value} {em : Addr}
def own_All (Z : State) (els : List Value) (em : Addr) : Prop := (∀ i : Nat, i < 16 → ∃ x, els.getD i .null = .ref x ∧ Exa Z Z.heap x "com/example/wayfare/wayfare/market/Good" ∧ x ≠ em) ∧ (∀ b : Nat, b = 8 ∨ b = 12 → ∀ i j : Nat, i < 4 → j < 4 → i ≠ j → els.getD (b + i) .null ≠ els.getD (b + j) .null)
theorem own_inf {d : Int32} (h : own_All Z els em) (hd : own_I d) : ∃ x, (els : List Value).getD (((((0 : Int32) * (4 : Int32)) + d) - (1 : Int32))).toNatClampNeg .null = .ref x ∧ Exa Z Z.heap x "com/example/wayfare/wayfare/market/Good" := by
  have k : ∀ (j : Nat), j < 16 → ∃ x, els.getD j .null = .ref x ∧ Exa Z Z.heap x "com/example/wayfare/wayfare/market/Good" := fun j hj => by obtain ⟨x, h1, h2, -⟩ := h.1 j hj; exact ⟨x, h1, h2⟩
  rcases hd with rfl | rfl | rfl | rfl
  · exact k 0 (by decide)
  · exact k 1 (by decide)
  · exact k 2 (by decide)
  · exact k 3 (by decide)
theorem own_outf {d : Int32} (h : own_All Z els em) (hd : own_O d) : ∃ x, (els : List Value).getD (((((1 : Int32) * (4 : Int32)) + d) - (2 : Int32))).toNatClampNeg .null = .ref x ∧ Exa Z Z.heap x "com/example/wayfare/wayfare/market/Good" ∧ x ≠ em := by
  rcases hd with rfl | rfl | rfl | rfl
  · exact h.1 4 (by decide)
  · exact h.1 5 (by decide)
  · exact h.1 6 (by decide)
  · exact h.1 7 (by decide)
theorem own_kk {hg hot : Addr} {kk : Int32} (h : own_K hg hot kk) : kk = 2 ∨ kk = 3 := by
  rcases h with ⟨-, q⟩ | ⟨-, q⟩
  · exact Or.inl q
  · exact Or.inr q
theorem own_ix {kk d : Int32} (hk : kk = 2 ∨ kk = 3) (hd : own_I d) : ∃ b i : Nat, (b = 8 ∨ b = 12) ∧ (b = 8 ↔ kk = 2) ∧ i < 4 ∧ d = Int32.ofNat (i + 1) ∧ ((((kk * (4 : Int32)) + d) - (1 : Int32))).toNatClampNeg = b + i := by
  rcases hk with rfl | rfl <;> rcases hd with rfl | rfl | rfl | rfl
  · exact ⟨8, 0, by decide, by decide, by decide, by decide, by decide⟩
  · exact ⟨8, 1, by decide, by decide, by decide, by decide, by decide⟩
  · exact ⟨8, 2, by decide, by decide, by decide, by decide, by decide⟩
  · exact ⟨8, 3, by decide, by decide, by decide, by decide, by decide⟩
  · exact ⟨12, 0, by decide, by decide, by decide, by decide, by decide⟩
  · exact ⟨12, 1, by decide, by decide, by decide, by decide, by decide⟩
  · exact ⟨12, 2, by decide, by decide, by decide, by decide, by decide⟩
  · exact ⟨12, 3, by decide, by decide, by decide, by decide, by decide⟩
theorem own_rm {kk d : Int32} (h : own_All Z els em) (hk : kk = 2 ∨ kk = 3) (hd : own_I d) : ∃ x, (els : List Value).getD ((((kk * (4 : Int32)) + d) - (1 : Int32))).toNatClampNeg .null = .ref x ∧ Exa Z Z.heap x "com/example/wayfare/wayfare/market/Good" := by
  obtain ⟨b, i, hb, -, hi, -, q⟩ := own_ix hk hd
  obtain ⟨x, h1, h2, -⟩ := h.1 (b + i) (by omega)
  exact ⟨x, by rw [q]; exact h1, h2⟩
theorem own_inj {kk d d' : Int32} {x x' : Addr} (h : own_All Z els em) (hk : kk = 2 ∨ kk = 3) (hd : own_I d) (hd' : own_I d') (p : (els : List Value).getD ((((kk * (4 : Int32)) + d) - (1 : Int32))).toNatClampNeg .null = .ref x) (p' : (els : List Value).getD ((((kk * (4 : Int32)) + d') - (1 : Int32))).toNatClampNeg .null = .ref x') (ne : d ≠ d') : x ≠ x' := by
  obtain ⟨b, i, hb, hbk, hi, e, q⟩ := own_ix hk hd
  obtain ⟨b', i', hb', hbk', hi', e', q'⟩ := own_ix hk hd'
  have hbb : b' = b := by
    by_cases w : kk = 2
    · rw [hbk.mpr w, hbk'.mpr w]
    · have w1 : b ≠ 8 := fun z => w (hbk.mp z)
      have w2 : b' ≠ 8 := fun z => w (hbk'.mp z)
      omega
  subst hbb
  rw [q] at p
  rw [q'] at p'
  intro z
  subst z
  exact h.2 b' hb i i' hi hi' (fun z => ne (by rw [e, e', z])) (p.trans p'.symm)
theorem own_same1 {kk d d' : Int32} {x x' : Addr} (p : (els : List Value).getD ((((kk * (4 : Int32)) + d) - (1 : Int32))).toNatClampNeg .null = .ref x) (p' : (els : List Value).getD ((((kk * (4 : Int32)) + d') - (1 : Int32))).toNatClampNeg .null = .ref x') (e : d' = d) : x = x' := by
  subst e
  exact Value.ref.inj (p.symm.trans p')
theorem own_arrAt {s : State} {a : Addr} {cell : Cell} (h : s.arrayAt? a = some cell) : s.heap[a]? = some cell := by
  unfold State.arrayAt? at h
  cases hh : s.heap[a]? with
  | none => simp [hh] at h
  | some w =>
    simp only [hh, Option.bind_eq_bind, Option.bind_some] at h
    cases hk : s.vm.classes[w.cls]? with
    | none => simp [hk] at h
    | some k =>
      simp only [hk, Option.bind_some] at h
      split at h
      · cases h
      · split at h
        · cases h; rfl
        · cases h
theorem own_len {args : Array Value} {s : State} {t : Term} {z : Int32} {a : Addr} {cl : Cell} (h : (Cond.eq (Term.length t) (Term.int z)).value args s none s [] = some true) (ht : t.eval args s none [] s = some (.ref a)) (hc : s.heap[a]? = some cl) : cl.slots.size < 2 ^ 31 ∧ cl.slots.size.toInt32 = z := by
  obtain ⟨x, y, e1, e2, k1, k2⟩ := cmp_v (Or.inl h)
  obtain ⟨a', cell, q1, q2, q3⟩ := Term.length_spec e1
  cases ht.symm.trans q1
  cases (own_arrAt q2).symm.trans hc
  have lt : cl.slots.size < 2 ^ 31 := by
    by_cases w : cl.slots.size < 2 ^ 31
    · exact w
    · simp [Term.eval, ht, q2, w] at e1
  refine ⟨lt, ?_⟩
  subst q3
  have q := Cond.eq_ints e1 (Term.int_eval z)
  exact gotT q h
theorem own_hasL {cl : Cell} : ∀ (vs : List Value) (i : Nat), (∀ j, j < vs.length → cl.slots[i + j]? = vs[j]?) → HasL cl i vs
  | [], _, _ => trivial
  | v :: r, i, H => ⟨H 0 (Nat.succ_pos _), own_hasL r (i + 1) (fun j hj => by have := H (j + 1) (Nat.succ_lt_succ hj); rw [Nat.add_right_comm i 1 j]; exact this)⟩
theorem own_arv {a : Addr} {cl : Cell} {ty : FieldType} {z : Int32} {dv : Value} (hf : Fit Z) (A : Arr Z Z.heap a cl ty) (q : cl.slots.size < 2 ^ 31) (e : cl.slots.size.toInt32 = z) (hz : ¬ z < 0) (hn : z.toNatClampNeg = cl.slots.size) : Arv Z Z.heap a cl.cls ty z cl.slots.toList dv :=
  Arv.start hf A q e hz (by rw [hn]; rfl) (own_hasL _ 0 (fun j hj => by rw [Nat.zero_add, Array.getElem?_toList]))
theorem own_cln {n : Nat} {z : Int32} (q : n < 2 ^ 31) (e : n.toInt32 = z) : z.toNatClampNeg = n := by
  rw [← e]
  simp only [Int32.toNatClampNeg, len_toInt q]
  rfl
theorem own_el {args : Array Value} {s : State} {t : Term} {a x : Addr} {k : Int32} {i : Nat} {cl : Cell} {C D : String} {em : Addr} (h : (Cond.exactly (Term.elem t (Term.int k)) C).value args s none s [] = some true) (ev : (Term.elem t (Term.int k)).eval args s none [] s = some (.ref x)) (ht : t.eval args s none [] s = some (.ref a)) (hc : s.heap[a]? = some cl) (hk : k.toNatClampNeg = i) (he : Exa s s.heap em D) (hne : C ≠ D) : cl.slots.toList.getD i .null = .ref x ∧ Exa s s.heap x C ∧ x ≠ em := by
  have E := exa_at ev h
  refine ⟨?_, E, Exa.ne E he hne⟩
  obtain ⟨-, q⟩ := elem_in ev ht (Term.int_eval k) hc
  rw [hk] at q
  rw [List.getD_eq_getElem?_getD, Array.getElem?_toList, q]
  rfl
theorem own_neq {args : Array Value} {s : State} {t u : Term} {x y : Addr} (h : (Cond.not (Cond.eq t u)).value args s none s [] = some true) (e1 : t.eval args s none [] s = some (.ref x)) (e2 : u.eval args s none [] s = some (.ref y)) : x ≠ y := by
  have r := eq_R e1 e2 rfl rfl
  intro q
  exact gotF r (not_v h) (by rw [q])
theorem own_fld {args : Array Value} {s : State} {t : Term} {C n d : String} {a : Addr} {z : Int32} (h : (Cond.eq (Term.field t C n d) (Term.int z)).value args s none s [] = some true) (ht : t.eval args s none [] s = some (.ref a)) : Fld s s.heap a C n d (.int z) := by
  obtain ⟨x, y, e1, e2, k1, k2⟩ := cmp_v (Or.inl h)
  have e2' : y = .int z := by simpa [Term.eval] using e2.symm
  subst e2'
  obtain ⟨w, rfl⟩ := k2
  have q := Cond.eq_ints e1 e2
  rw [fld_at ht] at e1
  rw [gotT q h] at e1
  exact Fld.start e1
theorem own_mkAll {e8 e9 e10 e11 e12 e13 e14 e15 : Addr} (H : ∀ i : Nat, i < 16 → ∃ x, els.getD i .null = .ref x ∧ Exa Z Z.heap x "com/example/wayfare/wayfare/market/Good" ∧ x ≠ em) (h8 : els.getD 8 .null = .ref e8) (h9 : els.getD 9 .null = .ref e9) (h10 : els.getD 10 .null = .ref e10) (h11 : els.getD 11 .null = .ref e11) (h12 : els.getD 12 .null = .ref e12) (h13 : els.getD 13 .null = .ref e13) (h14 : els.getD 14 .null = .ref e14) (h15 : els.getD 15 .null = .ref e15)
    (n1 : e8 ≠ e9) (n2 : e8 ≠ e10) (n3 : e8 ≠ e11) (n4 : e9 ≠ e10) (n5 : e9 ≠ e11) (n6 : e10 ≠ e11) (m1 : e12 ≠ e13) (m2 : e12 ≠ e14) (m3 : e12 ≠ e15) (m4 : e13 ≠ e14) (m5 : e13 ≠ e15) (m6 : e14 ≠ e15) : own_All Z els em := by
  refine ⟨H, fun b hb i j hi hj hij => ?_⟩
  have k : ∀ {x y : Addr}, x ≠ y → Value.ref x ≠ Value.ref y := fun q z => q (Value.ref.inj z)
  rcases hb with rfl | rfl
  · match i, j, hi, hj, hij with
    | 0, 0, _, _, q => exact absurd rfl q
    | 0, 1, _, _, _ => show els.getD 8 .null ≠ els.getD 9 .null; rw [h8, h9]; exact k n1
    | 0, 2, _, _, _ => show els.getD 8 .null ≠ els.getD 10 .null; rw [h8, h10]; exact k n2
    | 0, 3, _, _, _ => show els.getD 8 .null ≠ els.getD 11 .null; rw [h8, h11]; exact k n3
    | 1, 0, _, _, _ => show els.getD 9 .null ≠ els.getD 8 .null; rw [h8, h9]; exact k n1.symm
    | 1, 1, _, _, q => exact absurd rfl q
    | 1, 2, _, _, _ => show els.getD 9 .null ≠ els.getD 10 .null; rw [h9, h10]; exact k n4
    | 1, 3, _, _, _ => show els.getD 9 .null ≠ els.getD 11 .null; rw [h9, h11]; exact k n5
    | 2, 0, _, _, _ => show els.getD 10 .null ≠ els.getD 8 .null; rw [h8, h10]; exact k n2.symm
    | 2, 1, _, _, _ => show els.getD 10 .null ≠ els.getD 9 .null; rw [h9, h10]; exact k n4.symm
    | 2, 2, _, _, q => exact absurd rfl q
    | 2, 3, _, _, _ => show els.getD 10 .null ≠ els.getD 11 .null; rw [h10, h11]; exact k n6
    | 3, 0, _, _, _ => show els.getD 11 .null ≠ els.getD 8 .null; rw [h8, h11]; exact k n3.symm
    | 3, 1, _, _, _ => show els.getD 11 .null ≠ els.getD 9 .null; rw [h9, h11]; exact k n5.symm
    | 3, 2, _, _, _ => show els.getD 11 .null ≠ els.getD 10 .null; rw [h10, h11]; exact k n6.symm
    | 3, 3, _, _, q => exact absurd rfl q
  · match i, j, hi, hj, hij with
    | 0, 0, _, _, q => exact absurd rfl q
    | 0, 1, _, _, _ => show els.getD 12 .null ≠ els.getD 13 .null; rw [h12, h13]; exact k m1
    | 0, 2, _, _, _ => show els.getD 12 .null ≠ els.getD 14 .null; rw [h12, h14]; exact k m2
    | 0, 3, _, _, _ => show els.getD 12 .null ≠ els.getD 15 .null; rw [h12, h15]; exact k m3
    | 1, 0, _, _, _ => show els.getD 13 .null ≠ els.getD 12 .null; rw [h12, h13]; exact k m1.symm
    | 1, 1, _, _, q => exact absurd rfl q
    | 1, 2, _, _, _ => show els.getD 13 .null ≠ els.getD 14 .null; rw [h13, h14]; exact k m4
    | 1, 3, _, _, _ => show els.getD 13 .null ≠ els.getD 15 .null; rw [h13, h15]; exact k m5
    | 2, 0, _, _, _ => show els.getD 14 .null ≠ els.getD 12 .null; rw [h12, h14]; exact k m2.symm
    | 2, 1, _, _, _ => show els.getD 14 .null ≠ els.getD 13 .null; rw [h13, h14]; exact k m4.symm
    | 2, 2, _, _, q => exact absurd rfl q
    | 2, 3, _, _, _ => show els.getD 14 .null ≠ els.getD 15 .null; rw [h14, h15]; exact k m6
    | 3, 0, _, _, _ => show els.getD 15 .null ≠ els.getD 12 .null; rw [h12, h15]; exact k m3.symm
    | 3, 1, _, _, _ => show els.getD 15 .null ≠ els.getD 13 .null; rw [h13, h15]; exact k m5.symm
    | 3, 2, _, _, _ => show els.getD 15 .null ≠ els.getD 14 .null; rw [h14, h15]; exact k m6.symm
    | 3, 3, _, _, q => exact absurd rfl q
end OwnT
theorem d16_0 : decode jdk_22_method_1_code 0 = .ok (.aload_n 0, 1) := by decide +kernel
theorem d16_1 : decode jdk_22_method_1_code 1 = .ok (.invokespecial 1, 3) := by decide +kernel
theorem d16_4 : decode jdk_22_method_1_code 4 = .ok (.return_, 1) := by decide +kernel
theorem d28_0 : decode jdk_29_method_65_code 0 = .ok (.iload_n 0, 1) := by decide +kernel
theorem d28_1 : decode jdk_29_method_65_code 1 = .ok (.iload_n 1, 1) := by decide +kernel
theorem d28_2 : decode jdk_29_method_65_code 2 = .ok (.if_icmp .lt 7, 3) := by decide +kernel
theorem d28_5 : decode jdk_29_method_65_code 5 = .ok (.iload_n 0, 1) := by decide +kernel
theorem d28_6 : decode jdk_29_method_65_code 6 = .ok (.goto 4, 3) := by decide +kernel
theorem d28_9 : decode jdk_29_method_65_code 9 = .ok (.iload_n 1, 1) := by decide +kernel
theorem d28_10 : decode jdk_29_method_65_code 10 = .ok (.ireturn, 1) := by decide +kernel
theorem d22_0 : decode jdk_29_method_69_code 0 = .ok (.iload_n 0, 1) := by decide +kernel
theorem d22_1 : decode jdk_29_method_69_code 1 = .ok (.iload_n 1, 1) := by decide +kernel
theorem d22_2 : decode jdk_29_method_69_code 2 = .ok (.if_icmp .gt 7, 3) := by decide +kernel
theorem d22_5 : decode jdk_29_method_69_code 5 = .ok (.iload_n 0, 1) := by decide +kernel
theorem d22_6 : decode jdk_29_method_69_code 6 = .ok (.goto 4, 3) := by decide +kernel
theorem d22_10 : decode jdk_29_method_69_code 10 = .ok (.ireturn, 1) := by decide +kernel
theorem d8_0 : decode jdk_30_method_1_code 0 = .ok (.aload_n 0, 1) := by decide +kernel
theorem d8_1 : decode jdk_30_method_1_code 1 = .ok (.invokespecial 1, 3) := by decide +kernel
theorem d8_4 : decode jdk_30_method_1_code 4 = .ok (.return_, 1) := by decide +kernel
theorem d17_0 : decode jdk_31_method_10_code 0 = .ok (.aload_n 0, 1) := by decide +kernel
theorem d17_1 : decode jdk_31_method_10_code 1 = .ok (.ifnonnull 11, 3) := by decide +kernel
theorem d17_12 : decode jdk_31_method_10_code 12 = .ok (.aload_n 0, 1) := by decide +kernel
theorem d17_13 : decode jdk_31_method_10_code 13 = .ok (.areturn, 1) := by decide +kernel
theorem d10_0 : decode jdk_31_method_11_code 0 = .ok (.aload_n 0, 1) := by decide +kernel
theorem d10_1 : decode jdk_31_method_11_code 1 = .ok (.ifnonnull 12, 3) := by decide +kernel
theorem d10_13 : decode jdk_31_method_11_code 13 = .ok (.aload_n 0, 1) := by decide +kernel
theorem d10_14 : decode jdk_31_method_11_code 14 = .ok (.areturn, 1) := by decide +kernel
theorem d33_0 : decode jdk_31_method_17_code 0 = .ok (.iload_n 0, 1) := by decide +kernel
theorem d33_1 : decode jdk_31_method_17_code 1 = .ok (.iload_n 1, 1) := by decide +kernel
theorem d33_2 : decode jdk_31_method_17_code 2 = .ok (.aconst_null, 1) := by decide +kernel
theorem d33_3 : decode jdk_31_method_17_code 3 = .ok (.invokestatic 105, 3) := by decide +kernel
theorem d33_6 : decode jdk_31_method_17_code 6 = .ok (.ireturn, 1) := by decide +kernel
theorem d2_0 : decode jdk_37_method_2_code 0 = .ok (.aload_n 0, 1) := by decide +kernel
theorem d2_1 : decode jdk_37_method_2_code 1 = .ok (.getfield 7, 3) := by decide +kernel
theorem d2_4 : decode jdk_37_method_2_code 4 = .ok (.ireturn, 1) := by decide +kernel
theorem d35_0 : decode jdk_38_method_18_code 0 = .ok (.aload_n 0, 1) := by decide +kernel
theorem d35_1 : decode jdk_38_method_18_code 1 = .ok (.getfield 9, 3) := by decide +kernel
theorem d35_4 : decode jdk_38_method_18_code 4 = .ok (.iload_n 1, 1) := by decide +kernel
theorem d35_5 : decode jdk_38_method_18_code 5 = .ok (.aaload, 1) := by decide +kernel
theorem d35_6 : decode jdk_38_method_18_code 6 = .ok (.areturn, 1) := by decide +kernel
theorem d32_0 : decode jdk_38_method_20_code 0 = .ok (.iload_n 1, 1) := by decide +kernel
theorem d32_1 : decode jdk_38_method_20_code 1 = .ok (.aload_n 0, 1) := by decide +kernel
theorem d32_2 : decode jdk_38_method_20_code 2 = .ok (.getfield 48, 3) := by decide +kernel
theorem d32_5 : decode jdk_38_method_20_code 5 = .ok (.invokestatic 118, 3) := by decide +kernel
theorem d32_8 : decode jdk_38_method_20_code 8 = .ok (.pop, 1) := by decide +kernel
theorem d32_9 : decode jdk_38_method_20_code 9 = .ok (.aload_n 0, 1) := by decide +kernel
theorem d32_10 : decode jdk_38_method_20_code 10 = .ok (.iload_n 1, 1) := by decide +kernel
theorem d32_11 : decode jdk_38_method_20_code 11 = .ok (.invokevirtual 123, 3) := by decide +kernel
theorem d32_14 : decode jdk_38_method_20_code 14 = .ok (.areturn, 1) := by decide +kernel
theorem d24_0 : decode jdk_38_method_24_code 0 = .ok (.iload_n 3, 1) := by decide +kernel
theorem d24_1 : decode jdk_38_method_24_code 1 = .ok (.aload_n 2, 1) := by decide +kernel
theorem d24_2 : decode jdk_38_method_24_code 2 = .ok (.arraylength, 1) := by decide +kernel
theorem d24_3 : decode jdk_38_method_24_code 3 = .ok (.if_icmp .ne 8, 3) := by decide +kernel
theorem d24_6 : decode jdk_38_method_24_code 6 = .ok (.aload_n 0, 1) := by decide +kernel
theorem d24_7 : decode jdk_38_method_24_code 7 = .ok (.invokevirtual 129, 3) := by decide +kernel
theorem d24_10 : decode jdk_38_method_24_code 10 = .ok (.astore_n 2, 1) := by decide +kernel
theorem d24_11 : decode jdk_38_method_24_code 11 = .ok (.aload_n 2, 1) := by decide +kernel
theorem d24_12 : decode jdk_38_method_24_code 12 = .ok (.iload_n 3, 1) := by decide +kernel
theorem d24_13 : decode jdk_38_method_24_code 13 = .ok (.aload_n 1, 1) := by decide +kernel
theorem d24_14 : decode jdk_38_method_24_code 14 = .ok (.aastore, 1) := by decide +kernel
theorem d24_15 : decode jdk_38_method_24_code 15 = .ok (.aload_n 0, 1) := by decide +kernel
theorem d24_16 : decode jdk_38_method_24_code 16 = .ok (.iload_n 3, 1) := by decide +kernel
theorem d24_17 : decode jdk_38_method_24_code 17 = .ok (.iconst 1, 1) := by decide +kernel
theorem d24_18 : decode jdk_38_method_24_code 18 = .ok (.iadd, 1) := by decide +kernel
theorem d24_19 : decode jdk_38_method_24_code 19 = .ok (.putfield 48, 3) := by decide +kernel
theorem d24_22 : decode jdk_38_method_24_code 22 = .ok (.return_, 1) := by decide +kernel
theorem d23_0 : decode jdk_38_method_25_code 0 = .ok (.aload_n 0, 1) := by decide +kernel
theorem d23_1 : decode jdk_38_method_25_code 1 = .ok (.dup, 1) := by decide +kernel
theorem d23_2 : decode jdk_38_method_25_code 2 = .ok (.getfield 63, 3) := by decide +kernel
theorem d23_5 : decode jdk_38_method_25_code 5 = .ok (.iconst 1, 1) := by decide +kernel
theorem d23_6 : decode jdk_38_method_25_code 6 = .ok (.iadd, 1) := by decide +kernel
theorem d23_7 : decode jdk_38_method_25_code 7 = .ok (.putfield 63, 3) := by decide +kernel
theorem d23_10 : decode jdk_38_method_25_code 10 = .ok (.aload_n 0, 1) := by decide +kernel
theorem d23_11 : decode jdk_38_method_25_code 11 = .ok (.aload_n 1, 1) := by decide +kernel
theorem d23_12 : decode jdk_38_method_25_code 12 = .ok (.aload_n 0, 1) := by decide +kernel
theorem d23_13 : decode jdk_38_method_25_code 13 = .ok (.getfield 9, 3) := by decide +kernel
theorem d23_16 : decode jdk_38_method_25_code 16 = .ok (.aload_n 0, 1) := by decide +kernel
theorem d23_17 : decode jdk_38_method_25_code 17 = .ok (.getfield 48, 3) := by decide +kernel
theorem d23_20 : decode jdk_38_method_25_code 20 = .ok (.invokevirtual 131, 3) := by decide +kernel
theorem d23_23 : decode jdk_38_method_25_code 23 = .ok (.iconst 1, 1) := by decide +kernel
theorem d23_24 : decode jdk_38_method_25_code 24 = .ok (.ireturn, 1) := by decide +kernel
theorem d18_0 : decode jdk_38_method_3_code 0 = .ok (.aload_n 0, 1) := by decide +kernel
theorem d18_1 : decode jdk_38_method_3_code 1 = .ok (.invokespecial 1, 3) := by decide +kernel
theorem d18_4 : decode jdk_38_method_3_code 4 = .ok (.aload_n 1, 1) := by decide +kernel
theorem d18_5 : decode jdk_38_method_3_code 5 = .ok (.invokeinterface 42 1, 5) := by decide +kernel
theorem d18_10 : decode jdk_38_method_3_code 10 = .ok (.astore_n 2, 1) := by decide +kernel
theorem d18_11 : decode jdk_38_method_3_code 11 = .ok (.aload_n 0, 1) := by decide +kernel
theorem d18_12 : decode jdk_38_method_3_code 12 = .ok (.aload_n 2, 1) := by decide +kernel
theorem d18_13 : decode jdk_38_method_3_code 13 = .ok (.arraylength, 1) := by decide +kernel
theorem d18_14 : decode jdk_38_method_3_code 14 = .ok (.dup_x1, 1) := by decide +kernel
theorem d18_15 : decode jdk_38_method_3_code 15 = .ok (.putfield 48, 3) := by decide +kernel
theorem d18_18 : decode jdk_38_method_3_code 18 = .ok (.ifCond .eq 39, 3) := by decide +kernel
theorem d18_21 : decode jdk_38_method_3_code 21 = .ok (.aload_n 1, 1) := by decide +kernel
theorem d18_22 : decode jdk_38_method_3_code 22 = .ok (.invokeinterface 52 1, 5) := by decide +kernel
theorem d18_27 : decode jdk_38_method_3_code 27 = .ok (.ldc 10, 2) := by decide +kernel
theorem d18_29 : decode jdk_38_method_3_code 29 = .ok (.if_acmp .ne 11, 3) := by decide +kernel
theorem d18_40 : decode jdk_38_method_3_code 40 = .ok (.aload_n 0, 1) := by decide +kernel
theorem d18_41 : decode jdk_38_method_3_code 41 = .ok (.aload_n 2, 1) := by decide +kernel
theorem d18_42 : decode jdk_38_method_3_code 42 = .ok (.aload_n 0, 1) := by decide +kernel
theorem d18_43 : decode jdk_38_method_3_code 43 = .ok (.getfield 48, 3) := by decide +kernel
theorem d18_46 : decode jdk_38_method_3_code 46 = .ok (.ldc 56, 2) := by decide +kernel
theorem d18_48 : decode jdk_38_method_3_code 48 = .ok (.invokestatic 57, 3) := by decide +kernel
theorem d18_51 : decode jdk_38_method_3_code 51 = .ok (.putfield 9, 3) := by decide +kernel
theorem d18_54 : decode jdk_38_method_3_code 54 = .ok (.goto 10, 3) := by decide +kernel
theorem d18_64 : decode jdk_38_method_3_code 64 = .ok (.return_, 1) := by decide +kernel
theorem d26_0 : decode jdk_38_method_6_code 0 = .ok (.aload_n 0, 1) := by decide +kernel
theorem d26_1 : decode jdk_38_method_6_code 1 = .ok (.getfield 9, 3) := by decide +kernel
theorem d26_4 : decode jdk_38_method_6_code 4 = .ok (.arraylength, 1) := by decide +kernel
theorem d26_5 : decode jdk_38_method_6_code 5 = .ok (.istore_n 2, 1) := by decide +kernel
theorem d26_6 : decode jdk_38_method_6_code 6 = .ok (.iload_n 2, 1) := by decide +kernel
theorem d26_7 : decode jdk_38_method_6_code 7 = .ok (.ifCond .gt 13, 3) := by decide +kernel
theorem d26_20 : decode jdk_38_method_6_code 20 = .ok (.iload_n 2, 1) := by decide +kernel
theorem d26_21 : decode jdk_38_method_6_code 21 = .ok (.iload_n 1, 1) := by decide +kernel
theorem d26_22 : decode jdk_38_method_6_code 22 = .ok (.iload_n 2, 1) := by decide +kernel
theorem d26_23 : decode jdk_38_method_6_code 23 = .ok (.isub, 1) := by decide +kernel
theorem d26_24 : decode jdk_38_method_6_code 24 = .ok (.iload_n 2, 1) := by decide +kernel
theorem d26_25 : decode jdk_38_method_6_code 25 = .ok (.iconst 1, 1) := by decide +kernel
theorem d26_26 : decode jdk_38_method_6_code 26 = .ok (.ishr, 1) := by decide +kernel
theorem d26_27 : decode jdk_38_method_6_code 27 = .ok (.invokestatic 73, 3) := by decide +kernel
theorem d26_30 : decode jdk_38_method_6_code 30 = .ok (.istore_n 3, 1) := by decide +kernel
theorem d26_31 : decode jdk_38_method_6_code 31 = .ok (.aload_n 0, 1) := by decide +kernel
theorem d26_32 : decode jdk_38_method_6_code 32 = .ok (.aload_n 0, 1) := by decide +kernel
theorem d26_33 : decode jdk_38_method_6_code 33 = .ok (.getfield 9, 3) := by decide +kernel
theorem d26_36 : decode jdk_38_method_6_code 36 = .ok (.iload_n 3, 1) := by decide +kernel
theorem d26_37 : decode jdk_38_method_6_code 37 = .ok (.invokestatic 66, 3) := by decide +kernel
theorem d26_40 : decode jdk_38_method_6_code 40 = .ok (.dup_x1, 1) := by decide +kernel
theorem d26_41 : decode jdk_38_method_6_code 41 = .ok (.putfield 9, 3) := by decide +kernel
theorem d26_44 : decode jdk_38_method_6_code 44 = .ok (.areturn, 1) := by decide +kernel
theorem d25_0 : decode jdk_38_method_7_code 0 = .ok (.aload_n 0, 1) := by decide +kernel
theorem d25_1 : decode jdk_38_method_7_code 1 = .ok (.aload_n 0, 1) := by decide +kernel
theorem d25_2 : decode jdk_38_method_7_code 2 = .ok (.getfield 48, 3) := by decide +kernel
theorem d25_5 : decode jdk_38_method_7_code 5 = .ok (.iconst 1, 1) := by decide +kernel
theorem d25_6 : decode jdk_38_method_7_code 6 = .ok (.iadd, 1) := by decide +kernel
theorem d25_7 : decode jdk_38_method_7_code 7 = .ok (.invokevirtual 69, 3) := by decide +kernel
theorem d25_10 : decode jdk_38_method_7_code 10 = .ok (.areturn, 1) := by decide +kernel
theorem d30_0 : decode jdk_38_method_8_code 0 = .ok (.aload_n 0, 1) := by decide +kernel
theorem d30_1 : decode jdk_38_method_8_code 1 = .ok (.getfield 48, 3) := by decide +kernel
theorem d30_4 : decode jdk_38_method_8_code 4 = .ok (.ireturn, 1) := by decide +kernel
theorem d19_0 : decode jdk_39_method_1_code 0 = .ok (.aload_n 0, 1) := by decide +kernel
theorem d19_1 : decode jdk_39_method_1_code 1 = .ok (.invokespecial 1, 3) := by decide +kernel
theorem d19_4 : decode jdk_39_method_1_code 4 = .ok (.aload_n 0, 1) := by decide +kernel
theorem d19_5 : decode jdk_39_method_1_code 5 = .ok (.iconst 0, 1) := by decide +kernel
theorem d19_6 : decode jdk_39_method_1_code 6 = .ok (.putfield 7, 3) := by decide +kernel
theorem d19_9 : decode jdk_39_method_1_code 9 = .ok (.return_, 1) := by decide +kernel
theorem d12_0 : decode jdk_40_method_38_code 0 = .ok (.new 96, 3) := by decide +kernel
theorem d12_3 : decode jdk_40_method_38_code 3 = .ok (.dup, 1) := by decide +kernel
theorem d12_4 : decode jdk_40_method_38_code 4 = .ok (.aload_n 0, 1) := by decide +kernel
theorem d12_5 : decode jdk_40_method_38_code 5 = .ok (.aload_n 1, 1) := by decide +kernel
theorem d12_6 : decode jdk_40_method_38_code 6 = .ok (.invokespecial 100, 3) := by decide +kernel
theorem d12_9 : decode jdk_40_method_38_code 9 = .ok (.areturn, 1) := by decide +kernel
theorem d34_0 : decode jdk_41_method_11_code 0 = .ok (.iload_n 0, 1) := by decide +kernel
theorem d34_1 : decode jdk_41_method_11_code 1 = .ok (.ifCond .lt 8, 3) := by decide +kernel
theorem d34_4 : decode jdk_41_method_11_code 4 = .ok (.iload_n 0, 1) := by decide +kernel
theorem d34_5 : decode jdk_41_method_11_code 5 = .ok (.iload_n 1, 1) := by decide +kernel
theorem d34_6 : decode jdk_41_method_11_code 6 = .ok (.if_icmp .lt 10, 3) := by decide +kernel
theorem d34_16 : decode jdk_41_method_11_code 16 = .ok (.iload_n 0, 1) := by decide +kernel
theorem d34_17 : decode jdk_41_method_11_code 17 = .ok (.ireturn, 1) := by decide +kernel
theorem d20_0 : decode jdk_44_method_10_code 0 = .ok (.aload_n 0, 1) := by decide +kernel
theorem d20_1 : decode jdk_44_method_10_code 1 = .ok (.getfield 24, 3) := by decide +kernel
theorem d20_4 : decode jdk_44_method_10_code 4 = .ok (.getstatic 19, 3) := by decide +kernel
theorem d20_7 : decode jdk_44_method_10_code 7 = .ok (.if_acmp .ne 15, 3) := by decide +kernel
theorem d20_22 : decode jdk_44_method_10_code 22 = .ok (.iconst 2, 1) := by decide +kernel
theorem d20_23 : decode jdk_44_method_10_code 23 = .ok (.anewarray 32, 3) := by decide +kernel
theorem d20_26 : decode jdk_44_method_10_code 26 = .ok (.dup, 1) := by decide +kernel
theorem d20_27 : decode jdk_44_method_10_code 27 = .ok (.iconst 0, 1) := by decide +kernel
theorem d20_28 : decode jdk_44_method_10_code 28 = .ok (.aload_n 0, 1) := by decide +kernel
theorem d20_29 : decode jdk_44_method_10_code 29 = .ok (.getfield 13, 3) := by decide +kernel
theorem d20_32 : decode jdk_44_method_10_code 32 = .ok (.aastore, 1) := by decide +kernel
theorem d20_33 : decode jdk_44_method_10_code 33 = .ok (.dup, 1) := by decide +kernel
theorem d20_34 : decode jdk_44_method_10_code 34 = .ok (.iconst 1, 1) := by decide +kernel
theorem d20_35 : decode jdk_44_method_10_code 35 = .ok (.aload_n 0, 1) := by decide +kernel
theorem d20_36 : decode jdk_44_method_10_code 36 = .ok (.getfield 24, 3) := by decide +kernel
theorem d20_39 : decode jdk_44_method_10_code 39 = .ok (.aastore, 1) := by decide +kernel
theorem d20_40 : decode jdk_44_method_10_code 40 = .ok (.areturn, 1) := by decide +kernel
theorem d13_0 : decode jdk_44_method_2_code 0 = .ok (.aload_n 0, 1) := by decide +kernel
theorem d13_1 : decode jdk_44_method_2_code 1 = .ok (.invokespecial 1, 3) := by decide +kernel
theorem d13_4 : decode jdk_44_method_2_code 4 = .ok (.aload_n 0, 1) := by decide +kernel
theorem d13_5 : decode jdk_44_method_2_code 5 = .ok (.aload_n 1, 1) := by decide +kernel
theorem d13_6 : decode jdk_44_method_2_code 6 = .ok (.invokestatic 7, 3) := by decide +kernel
theorem d13_9 : decode jdk_44_method_2_code 9 = .ok (.putfield 13, 3) := by decide +kernel
theorem d13_12 : decode jdk_44_method_2_code 12 = .ok (.aload_n 0, 1) := by decide +kernel
theorem d13_13 : decode jdk_44_method_2_code 13 = .ok (.aload_n 2, 1) := by decide +kernel
theorem d13_14 : decode jdk_44_method_2_code 14 = .ok (.invokestatic 7, 3) := by decide +kernel
theorem d13_17 : decode jdk_44_method_2_code 17 = .ok (.putfield 24, 3) := by decide +kernel
theorem d13_20 : decode jdk_44_method_2_code 20 = .ok (.return_, 1) := by decide +kernel
theorem d3_0 : decode jdk_45_method_4_code 0 = .ok (.aload_n 0, 1) := by decide +kernel
theorem d3_1 : decode jdk_45_method_4_code 1 = .ok (.getfield 7, 3) := by decide +kernel
theorem d3_4 : decode jdk_45_method_4_code 4 = .ok (.iload_n 1, 1) := by decide +kernel
theorem d3_5 : decode jdk_45_method_4_code 5 = .ok (.aaload, 1) := by decide +kernel
theorem d3_6 : decode jdk_45_method_4_code 6 = .ok (.areturn, 1) := by decide +kernel
theorem d14_0 : decode jdk_46_method_1_code 0 = .ok (.aload_n 0, 1) := by decide +kernel
theorem d14_1 : decode jdk_46_method_1_code 1 = .ok (.invokespecial 1, 3) := by decide +kernel
theorem d14_4 : decode jdk_46_method_1_code 4 = .ok (.return_, 1) := by decide +kernel
theorem d15_0 : decode jdk_47_method_1_code 0 = .ok (.aload_n 0, 1) := by decide +kernel
theorem d15_1 : decode jdk_47_method_1_code 1 = .ok (.invokespecial 1, 3) := by decide +kernel
theorem d15_4 : decode jdk_47_method_1_code 4 = .ok (.return_, 1) := by decide +kernel
theorem d27_0 : decode jdk_48_method_27_code 0 = .ok (.iload_n 0, 1) := by decide +kernel
theorem d27_1 : decode jdk_48_method_27_code 1 = .ok (.iload_n 1, 1) := by decide +kernel
theorem d27_2 : decode jdk_48_method_27_code 2 = .ok (.iload_n 2, 1) := by decide +kernel
theorem d27_3 : decode jdk_48_method_27_code 3 = .ok (.invokestatic 194, 3) := by decide +kernel
theorem d27_6 : decode jdk_48_method_27_code 6 = .ok (.iadd, 1) := by decide +kernel
theorem d27_7 : decode jdk_48_method_27_code 7 = .ok (.istore_n 3, 1) := by decide +kernel
theorem d27_8 : decode jdk_48_method_27_code 8 = .ok (.iconst 0, 1) := by decide +kernel
theorem d27_9 : decode jdk_48_method_27_code 9 = .ok (.iload_n 3, 1) := by decide +kernel
theorem d27_10 : decode jdk_48_method_27_code 10 = .ok (.if_icmp .ge 11, 3) := by decide +kernel
theorem d27_13 : decode jdk_48_method_27_code 13 = .ok (.iload_n 3, 1) := by decide +kernel
theorem d27_14 : decode jdk_48_method_27_code 14 = .ok (.ldc 200, 2) := by decide +kernel
theorem d27_16 : decode jdk_48_method_27_code 16 = .ok (.if_icmp .gt 5, 3) := by decide +kernel
theorem d27_19 : decode jdk_48_method_27_code 19 = .ok (.iload_n 3, 1) := by decide +kernel
theorem d27_20 : decode jdk_48_method_27_code 20 = .ok (.ireturn, 1) := by decide +kernel
theorem d29_0 : decode jdk_65_method_119_code 0 = .ok (.aload_n 0, 1) := by decide +kernel
theorem d29_1 : decode jdk_65_method_119_code 1 = .ok (.iload_n 1, 1) := by decide +kernel
theorem d29_2 : decode jdk_65_method_119_code 2 = .ok (.aload_n 0, 1) := by decide +kernel
theorem d29_3 : decode jdk_65_method_119_code 3 = .ok (.invokevirtual 86, 3) := by decide +kernel
theorem d29_6 : decode jdk_65_method_119_code 6 = .ok (.invokestatic 300, 3) := by decide +kernel
theorem d29_9 : decode jdk_65_method_119_code 9 = .ok (.areturn, 1) := by decide +kernel
theorem d21_0 : decode jdk_65_method_120_code 0 = .ok (.aload_n 2, 1) := by decide +kernel
theorem d21_1 : decode jdk_65_method_120_code 1 = .ok (.ldc 110, 2) := by decide +kernel
theorem d21_3 : decode jdk_65_method_120_code 3 = .ok (.if_acmp .ne 10, 3) := by decide +kernel
theorem d21_6 : decode jdk_65_method_120_code 6 = .ok (.iload_n 1, 1) := by decide +kernel
theorem d21_7 : decode jdk_65_method_120_code 7 = .ok (.anewarray 2, 3) := by decide +kernel
theorem d21_10 : decode jdk_65_method_120_code 10 = .ok (.goto 14, 3) := by decide +kernel
theorem d21_24 : decode jdk_65_method_120_code 24 = .ok (.astore_n 3, 1) := by decide +kernel
theorem d21_25 : decode jdk_65_method_120_code 25 = .ok (.aload_n 0, 1) := by decide +kernel
theorem d21_26 : decode jdk_65_method_120_code 26 = .ok (.iconst 0, 1) := by decide +kernel
theorem d21_27 : decode jdk_65_method_120_code 27 = .ok (.aload_n 3, 1) := by decide +kernel
theorem d21_28 : decode jdk_65_method_120_code 28 = .ok (.iconst 0, 1) := by decide +kernel
theorem d21_29 : decode jdk_65_method_120_code 29 = .ok (.aload_n 0, 1) := by decide +kernel
theorem d21_30 : decode jdk_65_method_120_code 30 = .ok (.arraylength, 1) := by decide +kernel
theorem d21_31 : decode jdk_65_method_120_code 31 = .ok (.iload_n 1, 1) := by decide +kernel
theorem d21_32 : decode jdk_65_method_120_code 32 = .ok (.invokestatic 304, 3) := by decide +kernel
theorem d21_35 : decode jdk_65_method_120_code 35 = .ok (.invokestatic 150, 3) := by decide +kernel
theorem d21_38 : decode jdk_65_method_120_code 38 = .ok (.aload_n 3, 1) := by decide +kernel
theorem d21_39 : decode jdk_65_method_120_code 39 = .ok (.areturn, 1) := by decide +kernel
theorem d31_0 : decode method_3_code 0 = .ok (.iload_n 2, 1) := by decide +kernel
theorem d31_1 : decode method_3_code 1 = .ok (.iload_n 1, 1) := by decide +kernel
theorem d31_2 : decode method_3_code 2 = .ok (.if_icmp .ge 18, 3) := by decide +kernel
theorem d31_5 : decode method_3_code 5 = .ok (.aload_n 0, 1) := by decide +kernel
theorem d31_6 : decode method_3_code 6 = .ok (.iload_n 2, 1) := by decide +kernel
theorem d31_7 : decode method_3_code 7 = .ok (.invokeinterface 48 2, 5) := by decide +kernel
theorem d31_12 : decode method_3_code 12 = .ok (.aload_n 3, 1) := by decide +kernel
theorem d31_13 : decode method_3_code 13 = .ok (.if_acmp .ne 7, 3) := by decide +kernel
theorem d31_16 : decode method_3_code 16 = .ok (.iconst 1, 1) := by decide +kernel
theorem d31_17 : decode method_3_code 17 = .ok (.goto 4, 3) := by decide +kernel
theorem d31_20 : decode method_3_code 20 = .ok (.iconst 0, 1) := by decide +kernel
theorem d31_21 : decode method_3_code 21 = .ok (.ireturn, 1) := by decide +kernel
theorem d0_0 : decode prog_50_method_2_code 0 = .ok (.getstatic 17, 3) := by decide +kernel
theorem d0_3 : decode prog_50_method_2_code 3 = .ok (.iload_n 0, 1) := by decide +kernel
theorem d0_4 : decode prog_50_method_2_code 4 = .ok (.invokestatic 22, 3) := by decide +kernel
theorem d0_7 : decode prog_50_method_2_code 7 = .ok (.areturn, 1) := by decide +kernel
theorem d4_0 : decode prog_50_method_3_code 0 = .ok (.getstatic 26, 3) := by decide +kernel
theorem d4_3 : decode prog_50_method_3_code 3 = .ok (.iload_n 0, 1) := by decide +kernel
theorem d4_4 : decode prog_50_method_3_code 4 = .ok (.invokestatic 22, 3) := by decide +kernel
theorem d4_7 : decode prog_50_method_3_code 7 = .ok (.areturn, 1) := by decide +kernel
theorem d5_0 : decode prog_50_method_4_code 0 = .ok (.aload_n 0, 1) := by decide +kernel
theorem d5_1 : decode prog_50_method_4_code 1 = .ok (.getstatic 29, 3) := by decide +kernel
theorem d5_4 : decode prog_50_method_4_code 4 = .ok (.if_acmp .ne 9, 3) := by decide +kernel
theorem d5_7 : decode prog_50_method_4_code 7 = .ok (.getstatic 35, 3) := by decide +kernel
theorem d5_10 : decode prog_50_method_4_code 10 = .ok (.goto 6, 3) := by decide +kernel
theorem d5_13 : decode prog_50_method_4_code 13 = .ok (.getstatic 38, 3) := by decide +kernel
theorem d5_16 : decode prog_50_method_4_code 16 = .ok (.iload_n 1, 1) := by decide +kernel
theorem d5_17 : decode prog_50_method_4_code 17 = .ok (.invokestatic 22, 3) := by decide +kernel
theorem d5_20 : decode prog_50_method_4_code 20 = .ok (.areturn, 1) := by decide +kernel
theorem d1_0 : decode prog_50_method_6_code 0 = .ok (.iload_n 1, 1) := by decide +kernel
theorem d1_1 : decode prog_50_method_6_code 1 = .ok (.aload_n 0, 1) := by decide +kernel
theorem d1_2 : decode prog_50_method_6_code 2 = .ok (.getfield 67, 3) := by decide +kernel
theorem d1_5 : decode prog_50_method_6_code 5 = .ok (.if_icmp .lt 13, 3) := by decide +kernel
theorem d1_8 : decode prog_50_method_6_code 8 = .ok (.iload_n 1, 1) := by decide +kernel
theorem d1_9 : decode prog_50_method_6_code 9 = .ok (.aload_n 0, 1) := by decide +kernel
theorem d1_10 : decode prog_50_method_6_code 10 = .ok (.getfield 67, 3) := by decide +kernel
theorem d1_13 : decode prog_50_method_6_code 13 = .ok (.iconst 4, 1) := by decide +kernel
theorem d1_14 : decode prog_50_method_6_code 14 = .ok (.iadd, 1) := by decide +kernel
theorem d1_15 : decode prog_50_method_6_code 15 = .ok (.if_icmp .lt 33, 3) := by decide +kernel
theorem d1_48 : decode prog_50_method_6_code 48 = .ok (.getstatic 83, 3) := by decide +kernel
theorem d1_51 : decode prog_50_method_6_code 51 = .ok (.aload_n 0, 1) := by decide +kernel
theorem d1_52 : decode prog_50_method_6_code 52 = .ok (.invokevirtual 87, 3) := by decide +kernel
theorem d1_55 : decode prog_50_method_6_code 55 = .ok (.iconst 4, 1) := by decide +kernel
theorem d1_56 : decode prog_50_method_6_code 56 = .ok (.imul, 1) := by decide +kernel
theorem d1_57 : decode prog_50_method_6_code 57 = .ok (.iload_n 1, 1) := by decide +kernel
theorem d1_58 : decode prog_50_method_6_code 58 = .ok (.iadd, 1) := by decide +kernel
theorem d1_59 : decode prog_50_method_6_code 59 = .ok (.aload_n 0, 1) := by decide +kernel
theorem d1_60 : decode prog_50_method_6_code 60 = .ok (.getfield 67, 3) := by decide +kernel
theorem d1_63 : decode prog_50_method_6_code 63 = .ok (.isub, 1) := by decide +kernel
theorem d1_64 : decode prog_50_method_6_code 64 = .ok (.invokeinterface 88 2, 5) := by decide +kernel
theorem d1_69 : decode prog_50_method_6_code 69 = .ok (.checkcast 8, 3) := by decide +kernel
theorem d1_72 : decode prog_50_method_6_code 72 = .ok (.areturn, 1) := by decide +kernel
theorem d7_0 : decode prog_82_method_1_code 0 = .ok (.aload_n 0, 1) := by decide +kernel
theorem d7_1 : decode prog_82_method_1_code 1 = .ok (.invokespecial 1, 3) := by decide +kernel
theorem d7_4 : decode prog_82_method_1_code 4 = .ok (.iload_n 1, 1) := by decide +kernel
theorem d7_5 : decode prog_82_method_1_code 5 = .ok (.iload_n 2, 1) := by decide +kernel
theorem d7_6 : decode prog_82_method_1_code 6 = .ok (.invokestatic 7, 3) := by decide +kernel
theorem d7_9 : decode prog_82_method_1_code 9 = .ok (.aload_n 3, 1) := by decide +kernel
theorem d7_10 : decode prog_82_method_1_code 10 = .ok (.ldc 13, 2) := by decide +kernel
theorem d7_12 : decode prog_82_method_1_code 12 = .ok (.invokestatic 15, 3) := by decide +kernel
theorem d7_15 : decode prog_82_method_1_code 15 = .ok (.pop, 1) := by decide +kernel
theorem d7_16 : decode prog_82_method_1_code 16 = .ok (.aload_n 0, 1) := by decide +kernel
theorem d7_17 : decode prog_82_method_1_code 17 = .ok (.iload_n 1, 1) := by decide +kernel
theorem d7_18 : decode prog_82_method_1_code 18 = .ok (.putfield 21, 3) := by decide +kernel
theorem d7_21 : decode prog_82_method_1_code 21 = .ok (.aload_n 0, 1) := by decide +kernel
theorem d7_22 : decode prog_82_method_1_code 22 = .ok (.iload_n 2, 1) := by decide +kernel
theorem d7_23 : decode prog_82_method_1_code 23 = .ok (.putfield 25, 3) := by decide +kernel
theorem d7_26 : decode prog_82_method_1_code 26 = .ok (.aload_n 0, 1) := by decide +kernel
theorem d7_27 : decode prog_82_method_1_code 27 = .ok (.aload_n 3, 1) := by decide +kernel
theorem d7_28 : decode prog_82_method_1_code 28 = .ok (.putfield 28, 3) := by decide +kernel
theorem d7_31 : decode prog_82_method_1_code 31 = .ok (.return_, 1) := by decide +kernel
theorem d9_0 : decode prog_82_method_2_code 0 = .ok (.iload_n 0, 1) := by decide +kernel
theorem d9_1 : decode prog_82_method_2_code 1 = .ok (.iconst 1, 1) := by decide +kernel
theorem d9_2 : decode prog_82_method_2_code 2 = .ok (.if_icmp .lt 8, 3) := by decide +kernel
theorem d9_5 : decode prog_82_method_2_code 5 = .ok (.iload_n 0, 1) := by decide +kernel
theorem d9_6 : decode prog_82_method_2_code 6 = .ok (.iconst 4, 1) := by decide +kernel
theorem d9_7 : decode prog_82_method_2_code 7 = .ok (.if_icmp .le 17, 3) := by decide +kernel
theorem d9_24 : decode prog_82_method_2_code 24 = .ok (.iload_n 1, 1) := by decide +kernel
theorem d9_25 : decode prog_82_method_2_code 25 = .ok (.iload_n 0, 1) := by decide +kernel
theorem d9_26 : decode prog_82_method_2_code 26 = .ok (.if_icmp .le 8, 3) := by decide +kernel
theorem d9_29 : decode prog_82_method_2_code 29 = .ok (.iload_n 1, 1) := by decide +kernel
theorem d9_30 : decode prog_82_method_2_code 30 = .ok (.iconst 5, 1) := by decide +kernel
theorem d9_31 : decode prog_82_method_2_code 31 = .ok (.if_icmp .le 20, 3) := by decide +kernel
theorem d9_51 : decode prog_82_method_2_code 51 = .ok (.return_, 1) := by decide +kernel
theorem d6_0 : decode prog_82_method_4_code 0 = .ok (.aload_n 0, 1) := by decide +kernel
theorem d6_1 : decode prog_82_method_4_code 1 = .ok (.getfield 21, 3) := by decide +kernel
theorem d6_4 : decode prog_82_method_4_code 4 = .ok (.iload_n 1, 1) := by decide +kernel
theorem d6_5 : decode prog_82_method_4_code 5 = .ok (.if_icmp .gt 15, 3) := by decide +kernel
theorem d6_8 : decode prog_82_method_4_code 8 = .ok (.iload_n 1, 1) := by decide +kernel
theorem d6_9 : decode prog_82_method_4_code 9 = .ok (.aload_n 0, 1) := by decide +kernel
theorem d6_10 : decode prog_82_method_4_code 10 = .ok (.getfield 25, 3) := by decide +kernel
theorem d6_13 : decode prog_82_method_4_code 13 = .ok (.if_icmp .ge 7, 3) := by decide +kernel
theorem d6_16 : decode prog_82_method_4_code 16 = .ok (.iconst 1, 1) := by decide +kernel
theorem d6_17 : decode prog_82_method_4_code 17 = .ok (.goto 4, 3) := by decide +kernel
theorem d6_20 : decode prog_82_method_4_code 20 = .ok (.iconst 0, 1) := by decide +kernel
theorem d6_21 : decode prog_82_method_4_code 21 = .ok (.ireturn, 1) := by decide +kernel
theorem d11_0 : decode prog_82_method_5_code 0 = .ok (.new 43, 3) := by decide +kernel
theorem d11_3 : decode prog_82_method_5_code 3 = .ok (.dup, 1) := by decide +kernel
theorem d11_4 : decode prog_82_method_5_code 4 = .ok (.aload_n 0, 1) := by decide +kernel
theorem d11_5 : decode prog_82_method_5_code 5 = .ok (.getfield 21, 3) := by decide +kernel
theorem d11_8 : decode prog_82_method_5_code 8 = .ok (.invokestatic 61, 3) := by decide +kernel
theorem d11_11 : decode prog_82_method_5_code 11 = .ok (.aload_n 0, 1) := by decide +kernel
theorem d11_12 : decode prog_82_method_5_code 12 = .ok (.getfield 25, 3) := by decide +kernel
theorem d11_15 : decode prog_82_method_5_code 15 = .ok (.invokestatic 67, 3) := by decide +kernel
theorem d11_18 : decode prog_82_method_5_code 18 = .ok (.invokestatic 70, 3) := by decide +kernel
theorem d11_21 : decode prog_82_method_5_code 21 = .ok (.invokespecial 74, 3) := by decide +kernel
theorem d11_24 : decode prog_82_method_5_code 24 = .ok (.astore_n 1, 1) := by decide +kernel
theorem d11_25 : decode prog_82_method_5_code 25 = .ok (.aload_n 0, 1) := by decide +kernel
theorem d11_26 : decode prog_82_method_5_code 26 = .ok (.getfield 21, 3) := by decide +kernel
theorem d11_29 : decode prog_82_method_5_code 29 = .ok (.istore_n 2, 1) := by decide +kernel
theorem d11_30 : decode prog_82_method_5_code 30 = .ok (.iload_n 2, 1) := by decide +kernel
theorem d11_31 : decode prog_82_method_5_code 31 = .ok (.aload_n 0, 1) := by decide +kernel
theorem d11_32 : decode prog_82_method_5_code 32 = .ok (.getfield 25, 3) := by decide +kernel
theorem d11_35 : decode prog_82_method_5_code 35 = .ok (.if_icmp .ge 24, 3) := by decide +kernel
theorem d11_38 : decode prog_82_method_5_code 38 = .ok (.aload_n 1, 1) := by decide +kernel
theorem d11_39 : decode prog_82_method_5_code 39 = .ok (.aload_n 0, 1) := by decide +kernel
theorem d11_40 : decode prog_82_method_5_code 40 = .ok (.getfield 28, 3) := by decide +kernel
theorem d11_43 : decode prog_82_method_5_code 43 = .ok (.iload_n 2, 1) := by decide +kernel
theorem d11_44 : decode prog_82_method_5_code 44 = .ok (.invokestatic 77, 3) := by decide +kernel
theorem d11_47 : decode prog_82_method_5_code 47 = .ok (.invokeinterface 55 2, 5) := by decide +kernel
theorem d11_52 : decode prog_82_method_5_code 52 = .ok (.pop, 1) := by decide +kernel
theorem d11_53 : decode prog_82_method_5_code 53 = .ok (.iinc 2 1, 3) := by decide +kernel
theorem d11_56 : decode prog_82_method_5_code 56 = .ok (.goto (-26), 3) := by decide +kernel
theorem d11_59 : decode prog_82_method_5_code 59 = .ok (.aload_n 1, 1) := by decide +kernel
theorem d11_60 : decode prog_82_method_5_code 60 = .ok (.areturn, 1) := by decide +kernel
theorem tw0 {Z : State} {a0 : Array Value} (hw : ∀ d ∈ tables_1, d.before a0 Z = true) : (Jvm.Cond.constant "com/example/wayfare/wayfare/market/TripNightInTownPinLaw" (7 : Nat) (2147483647 : Int32)).before a0 Z = true := hw _ (List.mem_of_getElem? (i := 0) rfl)
theorem tw1 {Z : State} {a0 : Array Value} (hw : ∀ d ∈ tables_1, d.before a0 Z = true) : (Jvm.Cond.fieldLink "com/example/wayfare/wayfare/market/TripNightInTownPinLaw" (14 : Nat) "com/example/wayfare/wayfare/market/Hotel" "CHEAP" "Lcom/example/wayfare/wayfare/market/Hotel;").before a0 Z = true := hw _ (List.mem_of_getElem? (i := 1) rfl)
theorem tw2 {Z : State} {a0 : Array Value} (hw : ∀ d ∈ tables_1, d.before a0 Z = true) : (Jvm.Cond.initialized "com/example/wayfare/wayfare/market/Hotel").before a0 Z = true := hw _ (List.mem_of_getElem? (i := 2) rfl)
theorem tw3 {Z : State} {a0 : Array Value} (hw : ∀ d ∈ tables_1, d.before a0 Z = true) : (Jvm.Cond.laysStatic "com/example/wayfare/wayfare/market/Hotel" "CHEAP" "Lcom/example/wayfare/wayfare/market/Hotel;").before a0 Z = true := hw _ (List.mem_of_getElem? (i := 3) rfl)
theorem tw4 {Z : State} {a0 : Array Value} (hw : ∀ d ∈ tables_1, d.before a0 Z = true) : (Jvm.Cond.classLink "com/example/wayfare/wayfare/market/TripNightInTownPinLaw" (17 : Nat) "com/example/wayfare/wayfare/market/Trip").before a0 Z = true := hw _ (List.mem_of_getElem? (i := 4) rfl)
theorem tw5 {Z : State} {a0 : Array Value} (hw : ∀ d ∈ tables_1, d.before a0 Z = true) : (Jvm.Cond.instantiable "com/example/wayfare/wayfare/market/Trip" (3 : Nat)).before a0 Z = true := hw _ (List.mem_of_getElem? (i := 5) rfl)
theorem tw6 {Z : State} {a0 : Array Value} (hw : ∀ d ∈ tables_1, d.before a0 Z = true) : (Jvm.Cond.initialized "com/example/wayfare/wayfare/market/Trip").before a0 Z = true := hw _ (List.mem_of_getElem? (i := 6) rfl)
theorem tw7 {Z : State} {a0 : Array Value} (hw : ∀ d ∈ tables_1, d.before a0 Z = true) : (Jvm.Cond.methodLink "com/example/wayfare/wayfare/market/TripNightInTownPinLaw" (19 : Nat) ({ cls := "com/example/wayfare/wayfare/market/Trip", name := "<init>", desc := "(IILcom/example/wayfare/wayfare/market/Hotel;)V" } : Jvm.MethodName)).before a0 Z = true := hw _ (List.mem_of_getElem? (i := 7) rfl)
theorem tw8 {Z : State} {a0 : Array Value} (hw : ∀ d ∈ tables_1, d.before a0 Z = true) : (Jvm.Cond.instanceMethod ({ cls := "com/example/wayfare/wayfare/market/Trip", name := "<init>", desc := "(IILcom/example/wayfare/wayfare/market/Hotel;)V" } : Jvm.MethodName)).before a0 Z = true := hw _ (List.mem_of_getElem? (i := 8) rfl)
theorem tw9 {Z : State} {a0 : Array Value} (hw : ∀ d ∈ tables_1, d.before a0 Z = true) : (Jvm.Cond.code ({ cls := "com/example/wayfare/wayfare/market/Trip", name := "<init>", desc := "(IILcom/example/wayfare/wayfare/market/Hotel;)V" } : Jvm.MethodName) prog_82_method_1_code (4 : Nat) (Option.none : Option Jvm.ClassFile.FieldType)).before a0 Z = true := hw _ (List.mem_of_getElem? (i := 9) rfl)
theorem tw10 {Z : State} {a0 : Array Value} (hw : ∀ d ∈ tables_1, d.before a0 Z = true) : (Jvm.Cond.methodLink "com/example/wayfare/wayfare/market/Trip" (1 : Nat) ({ cls := "java/lang/Record", name := "<init>", desc := "()V" } : Jvm.MethodName)).before a0 Z = true := hw _ (List.mem_of_getElem? (i := 10) rfl)
theorem tw11 {Z : State} {a0 : Array Value} (hw : ∀ d ∈ tables_1, d.before a0 Z = true) : (Jvm.Cond.instanceMethod ({ cls := "java/lang/Record", name := "<init>", desc := "()V" } : Jvm.MethodName)).before a0 Z = true := hw _ (List.mem_of_getElem? (i := 11) rfl)
theorem tw13 {Z : State} {a0 : Array Value} (hw : ∀ d ∈ tables_1, d.before a0 Z = true) : (Jvm.Cond.initialized "java/lang/Record").before a0 Z = true := hw _ (List.mem_of_getElem? (i := 13) rfl)
theorem tw14 {Z : State} {a0 : Array Value} (hw : ∀ d ∈ tables_1, d.before a0 Z = true) : (Jvm.Cond.code ({ cls := "java/lang/Record", name := "<init>", desc := "()V" } : Jvm.MethodName) jdk_30_method_1_code (1 : Nat) (Option.none : Option Jvm.ClassFile.FieldType)).before a0 Z = true := hw _ (List.mem_of_getElem? (i := 14) rfl)
theorem tw15 {Z : State} {a0 : Array Value} (hw : ∀ d ∈ tables_1, d.before a0 Z = true) : (Jvm.Cond.methodLink "java/lang/Record" (1 : Nat) ({ cls := "java/lang/Object", name := "<init>", desc := "()V" } : Jvm.MethodName)).before a0 Z = true := hw _ (List.mem_of_getElem? (i := 15) rfl)
theorem tw16 {Z : State} {a0 : Array Value} (hw : ∀ d ∈ tables_1, d.before a0 Z = true) : (Jvm.Cond.instanceMethod ({ cls := "java/lang/Object", name := "<init>", desc := "()V" } : Jvm.MethodName)).before a0 Z = true := hw _ (List.mem_of_getElem? (i := 16) rfl)
theorem tw17 {Z : State} {a0 : Array Value} (hw : ∀ d ∈ tables_1, d.before a0 Z = true) : (Jvm.Cond.code ({ cls := "java/lang/Object", name := "<init>", desc := "()V" } : Jvm.MethodName) object_method_1_code (1 : Nat) (Option.none : Option Jvm.ClassFile.FieldType)).before a0 Z = true := hw _ (List.mem_of_getElem? (i := 17) rfl)
theorem tw18 {Z : State} {a0 : Array Value} (hw : ∀ d ∈ tables_1, d.before a0 Z = true) : (Jvm.Cond.methodLink "com/example/wayfare/wayfare/market/Trip" (7 : Nat) ({ cls := "com/example/wayfare/wayfare/market/Trip", name := "checkDays", desc := "(II)V" } : Jvm.MethodName)).before a0 Z = true := hw _ (List.mem_of_getElem? (i := 18) rfl)
theorem tw19 {Z : State} {a0 : Array Value} (hw : ∀ d ∈ tables_1, d.before a0 Z = true) : (Jvm.Cond.static ({ cls := "com/example/wayfare/wayfare/market/Trip", name := "checkDays", desc := "(II)V" } : Jvm.MethodName)).before a0 Z = true := hw _ (List.mem_of_getElem? (i := 19) rfl)
theorem tw20 {Z : State} {a0 : Array Value} (hw : ∀ d ∈ tables_1, d.before a0 Z = true) : (Jvm.Cond.code ({ cls := "com/example/wayfare/wayfare/market/Trip", name := "checkDays", desc := "(II)V" } : Jvm.MethodName) prog_82_method_2_code (2 : Nat) (Option.none : Option Jvm.ClassFile.FieldType)).before a0 Z = true := hw _ (List.mem_of_getElem? (i := 20) rfl)
theorem tw21 {Z : State} {a0 : Array Value} (hw : ∀ d ∈ tables_1, d.before a0 Z = true) : (Jvm.Cond.stringLink "com/example/wayfare/wayfare/market/Trip" (13 : Nat) "hotel").before a0 Z = true := hw _ (List.mem_of_getElem? (i := 21) rfl)
theorem tw29 {Z : State} {a0 : Array Value} (hw : ∀ d ∈ tables_1, d.before a0 Z = true) : (Jvm.Cond.methodLink "com/example/wayfare/wayfare/market/Trip" (15 : Nat) ({ cls := "java/util/Objects", name := "requireNonNull", desc := "(Ljava/lang/Object;Ljava/lang/String;)Ljava/lang/Object;" } : Jvm.MethodName)).before a0 Z = true := hw _ (List.mem_of_getElem? (i := 29) rfl)
theorem tw30 {Z : State} {a0 : Array Value} (hw : ∀ d ∈ tables_1, d.before a0 Z = true) : (Jvm.Cond.static ({ cls := "java/util/Objects", name := "requireNonNull", desc := "(Ljava/lang/Object;Ljava/lang/String;)Ljava/lang/Object;" } : Jvm.MethodName)).before a0 Z = true := hw _ (List.mem_of_getElem? (i := 30) rfl)
theorem tw31 {Z : State} {a0 : Array Value} (hw : ∀ d ∈ tables_1, d.before a0 Z = true) : (Jvm.Cond.initialized "java/util/Objects").before a0 Z = true := hw _ (List.mem_of_getElem? (i := 31) rfl)
theorem tw32 {Z : State} {a0 : Array Value} (hw : ∀ d ∈ tables_1, d.before a0 Z = true) : (Jvm.Cond.code ({ cls := "java/util/Objects", name := "requireNonNull", desc := "(Ljava/lang/Object;Ljava/lang/String;)Ljava/lang/Object;" } : Jvm.MethodName) jdk_31_method_11_code (2 : Nat) (Option.some (Jvm.ClassFile.FieldType.object "java/lang/Object"))).before a0 Z = true := hw _ (List.mem_of_getElem? (i := 32) rfl)
theorem tw33 {Z : State} {a0 : Array Value} (hw : ∀ d ∈ tables_1, d.before a0 Z = true) : (Jvm.Cond.fieldLink "com/example/wayfare/wayfare/market/Trip" (21 : Nat) "com/example/wayfare/wayfare/market/Trip" "arrival" "I").before a0 Z = true := hw _ (List.mem_of_getElem? (i := 33) rfl)
theorem tw34 {Z : State} {a0 : Array Value} (hw : ∀ d ∈ tables_1, d.before a0 Z = true) : (Jvm.Cond.laysFinal "com/example/wayfare/wayfare/market/Trip" "com/example/wayfare/wayfare/market/Trip" "arrival" "I").before a0 Z = true := hw _ (List.mem_of_getElem? (i := 34) rfl)
theorem tw35 {Z : State} {a0 : Array Value} (hw : ∀ d ∈ tables_1, d.before a0 Z = true) : (Jvm.Cond.fieldLink "com/example/wayfare/wayfare/market/Trip" (25 : Nat) "com/example/wayfare/wayfare/market/Trip" "departure" "I").before a0 Z = true := hw _ (List.mem_of_getElem? (i := 35) rfl)
theorem tw36 {Z : State} {a0 : Array Value} (hw : ∀ d ∈ tables_1, d.before a0 Z = true) : (Jvm.Cond.laysFinal "com/example/wayfare/wayfare/market/Trip" "com/example/wayfare/wayfare/market/Trip" "departure" "I").before a0 Z = true := hw _ (List.mem_of_getElem? (i := 36) rfl)
theorem tw37 {Z : State} {a0 : Array Value} (hw : ∀ d ∈ tables_1, d.before a0 Z = true) : (Jvm.Cond.fieldLink "com/example/wayfare/wayfare/market/Trip" (28 : Nat) "com/example/wayfare/wayfare/market/Trip" "hotel" "Lcom/example/wayfare/wayfare/market/Hotel;").before a0 Z = true := hw _ (List.mem_of_getElem? (i := 37) rfl)
theorem tw38 {Z : State} {a0 : Array Value} (hw : ∀ d ∈ tables_1, d.before a0 Z = true) : (Jvm.Cond.laysFinal "com/example/wayfare/wayfare/market/Trip" "com/example/wayfare/wayfare/market/Trip" "hotel" "Lcom/example/wayfare/wayfare/market/Hotel;").before a0 Z = true := hw _ (List.mem_of_getElem? (i := 38) rfl)
theorem tw39 {Z : State} {a0 : Array Value} (hw : ∀ d ∈ tables_1, d.before a0 Z = true) : (Jvm.Cond.methodLink "com/example/wayfare/wayfare/market/TripNightInTownPinLaw" (22 : Nat) ({ cls := "com/example/wayfare/wayfare/market/Trip", name := "nightInTown", desc := "(I)Z" } : Jvm.MethodName)).before a0 Z = true := hw _ (List.mem_of_getElem? (i := 39) rfl)
theorem tw40 {Z : State} {a0 : Array Value} (hw : ∀ d ∈ tables_1, d.before a0 Z = true) : (Jvm.Cond.declares ({ cls := "com/example/wayfare/wayfare/market/Trip", name := "nightInTown", desc := "(I)Z" } : Jvm.MethodName)).before a0 Z = true := hw _ (List.mem_of_getElem? (i := 40) rfl)
theorem tw41 {Z : State} {a0 : Array Value} (hw : ∀ d ∈ tables_1, d.before a0 Z = true) : (Jvm.Cond.instanceMethod ({ cls := "com/example/wayfare/wayfare/market/Trip", name := "nightInTown", desc := "(I)Z" } : Jvm.MethodName)).before a0 Z = true := hw _ (List.mem_of_getElem? (i := 41) rfl)
theorem tw42 {Z : State} {a0 : Array Value} (hw : ∀ d ∈ tables_1, d.before a0 Z = true) : (Jvm.Cond.selects "com/example/wayfare/wayfare/market/Trip" ({ cls := "com/example/wayfare/wayfare/market/Trip", name := "nightInTown", desc := "(I)Z" } : Jvm.MethodName) ({ cls := "com/example/wayfare/wayfare/market/Trip", name := "nightInTown", desc := "(I)Z" } : Jvm.MethodName)).before a0 Z = true := hw _ (List.mem_of_getElem? (i := 42) rfl)
theorem tw43 {Z : State} {a0 : Array Value} (hw : ∀ d ∈ tables_1, d.before a0 Z = true) : (Jvm.Cond.code ({ cls := "com/example/wayfare/wayfare/market/Trip", name := "nightInTown", desc := "(I)Z" } : Jvm.MethodName) prog_82_method_4_code (2 : Nat) (Option.some Jvm.ClassFile.FieldType.boolean)).before a0 Z = true := hw _ (List.mem_of_getElem? (i := 43) rfl)
theorem tw44 {Z : State} {a0 : Array Value} (hw : ∀ d ∈ tables_1, d.before a0 Z = true) : (Jvm.Cond.methodLink "com/example/wayfare/wayfare/market/TripNightInTownPinLaw" (26 : Nat) ({ cls := "com/example/wayfare/wayfare/market/Trip", name := "goods", desc := "()Ljava/util/List;" } : Jvm.MethodName)).before a0 Z = true := hw _ (List.mem_of_getElem? (i := 44) rfl)
theorem tw45 {Z : State} {a0 : Array Value} (hw : ∀ d ∈ tables_1, d.before a0 Z = true) : (Jvm.Cond.declares ({ cls := "com/example/wayfare/wayfare/market/Trip", name := "goods", desc := "()Ljava/util/List;" } : Jvm.MethodName)).before a0 Z = true := hw _ (List.mem_of_getElem? (i := 45) rfl)
theorem tw46 {Z : State} {a0 : Array Value} (hw : ∀ d ∈ tables_1, d.before a0 Z = true) : (Jvm.Cond.instanceMethod ({ cls := "com/example/wayfare/wayfare/market/Trip", name := "goods", desc := "()Ljava/util/List;" } : Jvm.MethodName)).before a0 Z = true := hw _ (List.mem_of_getElem? (i := 46) rfl)
theorem tw47 {Z : State} {a0 : Array Value} (hw : ∀ d ∈ tables_1, d.before a0 Z = true) : (Jvm.Cond.selects "com/example/wayfare/wayfare/market/Trip" ({ cls := "com/example/wayfare/wayfare/market/Trip", name := "goods", desc := "()Ljava/util/List;" } : Jvm.MethodName) ({ cls := "com/example/wayfare/wayfare/market/Trip", name := "goods", desc := "()Ljava/util/List;" } : Jvm.MethodName)).before a0 Z = true := hw _ (List.mem_of_getElem? (i := 47) rfl)
theorem tw48 {Z : State} {a0 : Array Value} (hw : ∀ d ∈ tables_1, d.before a0 Z = true) : (Jvm.Cond.code ({ cls := "com/example/wayfare/wayfare/market/Trip", name := "goods", desc := "()Ljava/util/List;" } : Jvm.MethodName) prog_82_method_5_code (3 : Nat) (Option.some (Jvm.ClassFile.FieldType.object "java/util/List"))).before a0 Z = true := hw _ (List.mem_of_getElem? (i := 48) rfl)
theorem tw49 {Z : State} {a0 : Array Value} (hw : ∀ d ∈ tables_1, d.before a0 Z = true) : (Jvm.Cond.classLink "com/example/wayfare/wayfare/market/Trip" (43 : Nat) "java/util/ArrayList").before a0 Z = true := hw _ (List.mem_of_getElem? (i := 49) rfl)
theorem tw50 {Z : State} {a0 : Array Value} (hw : ∀ d ∈ tables_1, d.before a0 Z = true) : (Jvm.Cond.instantiable "java/util/ArrayList" (3 : Nat)).before a0 Z = true := hw _ (List.mem_of_getElem? (i := 50) rfl)
theorem tw51 {Z : State} {a0 : Array Value} (hw : ∀ d ∈ tables_1, d.before a0 Z = true) : (Jvm.Cond.initialized "java/util/ArrayList").before a0 Z = true := hw _ (List.mem_of_getElem? (i := 51) rfl)
theorem tw52 {Z : State} {a0 : Array Value} (hw : ∀ d ∈ tables_1, d.before a0 Z = true) : (Jvm.Cond.methodLink "com/example/wayfare/wayfare/market/Trip" (61 : Nat) ({ cls := "com/example/wayfare/wayfare/market/Good", name := "inflight", desc := "(I)Lcom/example/wayfare/wayfare/market/Good;" } : Jvm.MethodName)).before a0 Z = true := hw _ (List.mem_of_getElem? (i := 52) rfl)
theorem tw53 {Z : State} {a0 : Array Value} (hw : ∀ d ∈ tables_1, d.before a0 Z = true) : (Jvm.Cond.static ({ cls := "com/example/wayfare/wayfare/market/Good", name := "inflight", desc := "(I)Lcom/example/wayfare/wayfare/market/Good;" } : Jvm.MethodName)).before a0 Z = true := hw _ (List.mem_of_getElem? (i := 53) rfl)
theorem tw54 {Z : State} {a0 : Array Value} (hw : ∀ d ∈ tables_1, d.before a0 Z = true) : (Jvm.Cond.initialized "com/example/wayfare/wayfare/market/Good").before a0 Z = true := hw _ (List.mem_of_getElem? (i := 54) rfl)
theorem tw55 {Z : State} {a0 : Array Value} (hw : ∀ d ∈ tables_1, d.before a0 Z = true) : (Jvm.Cond.code ({ cls := "com/example/wayfare/wayfare/market/Good", name := "inflight", desc := "(I)Lcom/example/wayfare/wayfare/market/Good;" } : Jvm.MethodName) prog_50_method_2_code (1 : Nat) (Option.some (Jvm.ClassFile.FieldType.object "com/example/wayfare/wayfare/market/Good"))).before a0 Z = true := hw _ (List.mem_of_getElem? (i := 55) rfl)
theorem tw56 {Z : State} {a0 : Array Value} (hw : ∀ d ∈ tables_1, d.before a0 Z = true) : (Jvm.Cond.fieldLink "com/example/wayfare/wayfare/market/Good" (17 : Nat) "com/example/wayfare/wayfare/market/Good$Line" "INFLIGHT" "Lcom/example/wayfare/wayfare/market/Good$Line;").before a0 Z = true := hw _ (List.mem_of_getElem? (i := 56) rfl)
theorem tw57 {Z : State} {a0 : Array Value} (hw : ∀ d ∈ tables_1, d.before a0 Z = true) : (Jvm.Cond.initialized "com/example/wayfare/wayfare/market/Good$Line").before a0 Z = true := hw _ (List.mem_of_getElem? (i := 57) rfl)
theorem tw58 {Z : State} {a0 : Array Value} (hw : ∀ d ∈ tables_1, d.before a0 Z = true) : (Jvm.Cond.laysStatic "com/example/wayfare/wayfare/market/Good$Line" "INFLIGHT" "Lcom/example/wayfare/wayfare/market/Good$Line;").before a0 Z = true := hw _ (List.mem_of_getElem? (i := 58) rfl)
theorem tw59 {Z : State} {a0 : Array Value} (hw : ∀ d ∈ tables_1, d.before a0 Z = true) : (Jvm.Cond.methodLink "com/example/wayfare/wayfare/market/Good" (22 : Nat) ({ cls := "com/example/wayfare/wayfare/market/Good", name := "of", desc := "(Lcom/example/wayfare/wayfare/market/Good$Line;I)Lcom/example/wayfare/wayfare/market/Good;" } : Jvm.MethodName)).before a0 Z = true := hw _ (List.mem_of_getElem? (i := 59) rfl)
theorem tw60 {Z : State} {a0 : Array Value} (hw : ∀ d ∈ tables_1, d.before a0 Z = true) : (Jvm.Cond.static ({ cls := "com/example/wayfare/wayfare/market/Good", name := "of", desc := "(Lcom/example/wayfare/wayfare/market/Good$Line;I)Lcom/example/wayfare/wayfare/market/Good;" } : Jvm.MethodName)).before a0 Z = true := hw _ (List.mem_of_getElem? (i := 60) rfl)
theorem tw61 {Z : State} {a0 : Array Value} (hw : ∀ d ∈ tables_1, d.before a0 Z = true) : (Jvm.Cond.code ({ cls := "com/example/wayfare/wayfare/market/Good", name := "of", desc := "(Lcom/example/wayfare/wayfare/market/Good$Line;I)Lcom/example/wayfare/wayfare/market/Good;" } : Jvm.MethodName) prog_50_method_6_code (2 : Nat) (Option.some (Jvm.ClassFile.FieldType.object "com/example/wayfare/wayfare/market/Good"))).before a0 Z = true := hw _ (List.mem_of_getElem? (i := 61) rfl)
theorem tw62 {Z : State} {a0 : Array Value} (hw : ∀ d ∈ tables_1, d.before a0 Z = true) : (Jvm.Cond.fieldRef "com/example/wayfare/wayfare/market/Good" (67 : Nat) "com/example/wayfare/wayfare/market/Good$Line" "first" "I").before a0 Z = true := hw _ (List.mem_of_getElem? (i := 62) rfl)
theorem tw64 {Z : State} {a0 : Array Value} (hw : ∀ d ∈ tables_1, d.before a0 Z = true) : (Jvm.Cond.fieldLink "com/example/wayfare/wayfare/market/Good" (83 : Nat) "com/example/wayfare/wayfare/market/Good" "ALL" "Ljava/util/List;").before a0 Z = true := hw _ (List.mem_of_getElem? (i := 64) rfl)
theorem tw65 {Z : State} {a0 : Array Value} (hw : ∀ d ∈ tables_1, d.before a0 Z = true) : (Jvm.Cond.laysStatic "com/example/wayfare/wayfare/market/Good" "ALL" "Ljava/util/List;").before a0 Z = true := hw _ (List.mem_of_getElem? (i := 65) rfl)
theorem tw66 {Z : State} {a0 : Array Value} (hw : ∀ d ∈ tables_1, d.before a0 Z = true) : (Jvm.Cond.methodLink "com/example/wayfare/wayfare/market/Good" (87 : Nat) ({ cls := "com/example/wayfare/wayfare/market/Good$Line", name := "ordinal", desc := "()I" } : Jvm.MethodName)).before a0 Z = true := hw _ (List.mem_of_getElem? (i := 66) rfl)
theorem tw67 {Z : State} {a0 : Array Value} (hw : ∀ d ∈ tables_1, d.before a0 Z = true) : (Jvm.Cond.sameMethod "com/example/wayfare/wayfare/market/Good$Line" "java/lang/Enum" "ordinal" "()I").before a0 Z = true := hw _ (List.mem_of_getElem? (i := 67) rfl)
theorem tw68 {Z : State} {a0 : Array Value} (hw : ∀ d ∈ tables_1, d.before a0 Z = true) : (Jvm.Cond.declares ({ cls := "java/lang/Enum", name := "ordinal", desc := "()I" } : Jvm.MethodName)).before a0 Z = true := hw _ (List.mem_of_getElem? (i := 68) rfl)
theorem tw69 {Z : State} {a0 : Array Value} (hw : ∀ d ∈ tables_1, d.before a0 Z = true) : (Jvm.Cond.instanceMethod ({ cls := "java/lang/Enum", name := "ordinal", desc := "()I" } : Jvm.MethodName)).before a0 Z = true := hw _ (List.mem_of_getElem? (i := 69) rfl)
theorem tw70 {Z : State} {a0 : Array Value} (hw : ∀ d ∈ tables_1, d.before a0 Z = true) : (Jvm.Cond.selects "com/example/wayfare/wayfare/market/Good$Line" ({ cls := "com/example/wayfare/wayfare/market/Good$Line", name := "ordinal", desc := "()I" } : Jvm.MethodName) ({ cls := "java/lang/Enum", name := "ordinal", desc := "()I" } : Jvm.MethodName)).before a0 Z = true := hw _ (List.mem_of_getElem? (i := 70) rfl)
theorem tw71 {Z : State} {a0 : Array Value} (hw : ∀ d ∈ tables_1, d.before a0 Z = true) : (Jvm.Cond.initialized "java/lang/Enum").before a0 Z = true := hw _ (List.mem_of_getElem? (i := 71) rfl)
theorem tw72 {Z : State} {a0 : Array Value} (hw : ∀ d ∈ tables_1, d.before a0 Z = true) : (Jvm.Cond.code ({ cls := "java/lang/Enum", name := "ordinal", desc := "()I" } : Jvm.MethodName) jdk_37_method_2_code (1 : Nat) (Option.some Jvm.ClassFile.FieldType.int)).before a0 Z = true := hw _ (List.mem_of_getElem? (i := 72) rfl)
theorem tw73 {Z : State} {a0 : Array Value} (hw : ∀ d ∈ tables_1, d.before a0 Z = true) : (Jvm.Cond.fieldLink "java/lang/Enum" (7 : Nat) "java/lang/Enum" "ordinal" "I").before a0 Z = true := hw _ (List.mem_of_getElem? (i := 73) rfl)
theorem tw75 {Z : State} {a0 : Array Value} (hw : ∀ d ∈ tables_1, d.before a0 Z = true) : (Jvm.Cond.methodLink "com/example/wayfare/wayfare/market/Good" (88 : Nat) ({ cls := "java/util/List", name := "get", desc := "(I)Ljava/lang/Object;" } : Jvm.MethodName)).before a0 Z = true := hw _ (List.mem_of_getElem? (i := 75) rfl)
theorem tw76 {Z : State} {a0 : Array Value} (hw : ∀ d ∈ tables_1, d.before a0 Z = true) : (Jvm.Cond.declares ({ cls := "java/util/List", name := "get", desc := "(I)Ljava/lang/Object;" } : Jvm.MethodName)).before a0 Z = true := hw _ (List.mem_of_getElem? (i := 76) rfl)
theorem tw77 {Z : State} {a0 : Array Value} (hw : ∀ d ∈ tables_1, d.before a0 Z = true) : (Jvm.Cond.interfaceMethod "java/util/List" "java/util/List" "get" "(I)Ljava/lang/Object;").before a0 Z = true := hw _ (List.mem_of_getElem? (i := 77) rfl)
theorem tw78 {Z : State} {a0 : Array Value} (hw : ∀ d ∈ tables_1, d.before a0 Z = true) : (Jvm.Cond.selects "java/util/ImmutableCollections$ListN" ({ cls := "java/util/List", name := "get", desc := "(I)Ljava/lang/Object;" } : Jvm.MethodName) ({ cls := "java/util/ImmutableCollections$ListN", name := "get", desc := "(I)Ljava/lang/Object;" } : Jvm.MethodName)).before a0 Z = true := hw _ (List.mem_of_getElem? (i := 78) rfl)
theorem tw79 {Z : State} {a0 : Array Value} (hw : ∀ d ∈ tables_1, d.before a0 Z = true) : (Jvm.Cond.instanceMethod ({ cls := "java/util/ImmutableCollections$ListN", name := "get", desc := "(I)Ljava/lang/Object;" } : Jvm.MethodName)).before a0 Z = true := hw _ (List.mem_of_getElem? (i := 79) rfl)
theorem tw80 {Z : State} {a0 : Array Value} (hw : ∀ d ∈ tables_1, d.before a0 Z = true) : (Jvm.Cond.publicMethod ({ cls := "java/util/ImmutableCollections$ListN", name := "get", desc := "(I)Ljava/lang/Object;" } : Jvm.MethodName)).before a0 Z = true := hw _ (List.mem_of_getElem? (i := 80) rfl)
theorem tw81 {Z : State} {a0 : Array Value} (hw : ∀ d ∈ tables_1, d.before a0 Z = true) : (Jvm.Cond.unhidden "java/util/ImmutableCollections$ListN" "get" "(I)Ljava/lang/Object;").before a0 Z = true := hw _ (List.mem_of_getElem? (i := 81) rfl)
theorem tw82 {Z : State} {a0 : Array Value} (hw : ∀ d ∈ tables_1, d.before a0 Z = true) : (Jvm.Cond.castable "java/util/ImmutableCollections$ListN" "java/util/List").before a0 Z = true := hw _ (List.mem_of_getElem? (i := 82) rfl)
theorem tw83 {Z : State} {a0 : Array Value} (hw : ∀ d ∈ tables_1, d.before a0 Z = true) : (Jvm.Cond.initialized "java/util/ImmutableCollections$ListN").before a0 Z = true := hw _ (List.mem_of_getElem? (i := 83) rfl)
theorem tw84 {Z : State} {a0 : Array Value} (hw : ∀ d ∈ tables_1, d.before a0 Z = true) : (Jvm.Cond.code ({ cls := "java/util/ImmutableCollections$ListN", name := "get", desc := "(I)Ljava/lang/Object;" } : Jvm.MethodName) jdk_45_method_4_code (2 : Nat) (Option.some (Jvm.ClassFile.FieldType.object "java/lang/Object"))).before a0 Z = true := hw _ (List.mem_of_getElem? (i := 84) rfl)
theorem tw85 {Z : State} {a0 : Array Value} (hw : ∀ d ∈ tables_1, d.before a0 Z = true) : (Jvm.Cond.fieldLink "java/util/ImmutableCollections$ListN" (7 : Nat) "java/util/ImmutableCollections$ListN" "elements" "[Ljava/lang/Object;").before a0 Z = true := hw _ (List.mem_of_getElem? (i := 85) rfl)
theorem tw87 {Z : State} {a0 : Array Value} (hw : ∀ d ∈ tables_1, d.before a0 Z = true) : (Jvm.Cond.classLink "com/example/wayfare/wayfare/market/Good" (8 : Nat) "com/example/wayfare/wayfare/market/Good").before a0 Z = true := hw _ (List.mem_of_getElem? (i := 87) rfl)
theorem tw89 {Z : State} {a0 : Array Value} (hw : ∀ d ∈ tables_1, d.before a0 Z = true) : (Jvm.Cond.methodLink "com/example/wayfare/wayfare/market/Trip" (67 : Nat) ({ cls := "com/example/wayfare/wayfare/market/Good", name := "outflight", desc := "(I)Lcom/example/wayfare/wayfare/market/Good;" } : Jvm.MethodName)).before a0 Z = true := hw _ (List.mem_of_getElem? (i := 89) rfl)
theorem tw90 {Z : State} {a0 : Array Value} (hw : ∀ d ∈ tables_1, d.before a0 Z = true) : (Jvm.Cond.static ({ cls := "com/example/wayfare/wayfare/market/Good", name := "outflight", desc := "(I)Lcom/example/wayfare/wayfare/market/Good;" } : Jvm.MethodName)).before a0 Z = true := hw _ (List.mem_of_getElem? (i := 90) rfl)
theorem tw91 {Z : State} {a0 : Array Value} (hw : ∀ d ∈ tables_1, d.before a0 Z = true) : (Jvm.Cond.code ({ cls := "com/example/wayfare/wayfare/market/Good", name := "outflight", desc := "(I)Lcom/example/wayfare/wayfare/market/Good;" } : Jvm.MethodName) prog_50_method_3_code (1 : Nat) (Option.some (Jvm.ClassFile.FieldType.object "com/example/wayfare/wayfare/market/Good"))).before a0 Z = true := hw _ (List.mem_of_getElem? (i := 91) rfl)
theorem tw92 {Z : State} {a0 : Array Value} (hw : ∀ d ∈ tables_1, d.before a0 Z = true) : (Jvm.Cond.fieldLink "com/example/wayfare/wayfare/market/Good" (26 : Nat) "com/example/wayfare/wayfare/market/Good$Line" "OUTFLIGHT" "Lcom/example/wayfare/wayfare/market/Good$Line;").before a0 Z = true := hw _ (List.mem_of_getElem? (i := 92) rfl)
theorem tw93 {Z : State} {a0 : Array Value} (hw : ∀ d ∈ tables_1, d.before a0 Z = true) : (Jvm.Cond.laysStatic "com/example/wayfare/wayfare/market/Good$Line" "OUTFLIGHT" "Lcom/example/wayfare/wayfare/market/Good$Line;").before a0 Z = true := hw _ (List.mem_of_getElem? (i := 93) rfl)
theorem tw94 {Z : State} {a0 : Array Value} (hw : ∀ d ∈ tables_1, d.before a0 Z = true) : (Jvm.Cond.methodLink "com/example/wayfare/wayfare/market/Trip" (70 : Nat) ({ cls := "java/util/List", name := "of", desc := "(Ljava/lang/Object;Ljava/lang/Object;)Ljava/util/List;" } : Jvm.MethodName)).before a0 Z = true := hw _ (List.mem_of_getElem? (i := 94) rfl)
theorem tw95 {Z : State} {a0 : Array Value} (hw : ∀ d ∈ tables_1, d.before a0 Z = true) : (Jvm.Cond.static ({ cls := "java/util/List", name := "of", desc := "(Ljava/lang/Object;Ljava/lang/Object;)Ljava/util/List;" } : Jvm.MethodName)).before a0 Z = true := hw _ (List.mem_of_getElem? (i := 95) rfl)
theorem tw96 {Z : State} {a0 : Array Value} (hw : ∀ d ∈ tables_1, d.before a0 Z = true) : (Jvm.Cond.initialized "java/util/List").before a0 Z = true := hw _ (List.mem_of_getElem? (i := 96) rfl)
theorem tw97 {Z : State} {a0 : Array Value} (hw : ∀ d ∈ tables_1, d.before a0 Z = true) : (Jvm.Cond.code ({ cls := "java/util/List", name := "of", desc := "(Ljava/lang/Object;Ljava/lang/Object;)Ljava/util/List;" } : Jvm.MethodName) jdk_40_method_38_code (2 : Nat) (Option.some (Jvm.ClassFile.FieldType.object "java/util/List"))).before a0 Z = true := hw _ (List.mem_of_getElem? (i := 97) rfl)
theorem tw98 {Z : State} {a0 : Array Value} (hw : ∀ d ∈ tables_1, d.before a0 Z = true) : (Jvm.Cond.classLink "java/util/List" (96 : Nat) "java/util/ImmutableCollections$List12").before a0 Z = true := hw _ (List.mem_of_getElem? (i := 98) rfl)
theorem tw99 {Z : State} {a0 : Array Value} (hw : ∀ d ∈ tables_1, d.before a0 Z = true) : (Jvm.Cond.instantiable "java/util/ImmutableCollections$List12" (2 : Nat)).before a0 Z = true := hw _ (List.mem_of_getElem? (i := 99) rfl)
theorem tw100 {Z : State} {a0 : Array Value} (hw : ∀ d ∈ tables_1, d.before a0 Z = true) : (Jvm.Cond.initialized "java/util/ImmutableCollections$List12").before a0 Z = true := hw _ (List.mem_of_getElem? (i := 100) rfl)
theorem tw101 {Z : State} {a0 : Array Value} (hw : ∀ d ∈ tables_1, d.before a0 Z = true) : (Jvm.Cond.methodLink "java/util/List" (100 : Nat) ({ cls := "java/util/ImmutableCollections$List12", name := "<init>", desc := "(Ljava/lang/Object;Ljava/lang/Object;)V" } : Jvm.MethodName)).before a0 Z = true := hw _ (List.mem_of_getElem? (i := 101) rfl)
theorem tw102 {Z : State} {a0 : Array Value} (hw : ∀ d ∈ tables_1, d.before a0 Z = true) : (Jvm.Cond.instanceMethod ({ cls := "java/util/ImmutableCollections$List12", name := "<init>", desc := "(Ljava/lang/Object;Ljava/lang/Object;)V" } : Jvm.MethodName)).before a0 Z = true := hw _ (List.mem_of_getElem? (i := 102) rfl)
theorem tw104 {Z : State} {a0 : Array Value} (hw : ∀ d ∈ tables_1, d.before a0 Z = true) : (Jvm.Cond.code ({ cls := "java/util/ImmutableCollections$List12", name := "<init>", desc := "(Ljava/lang/Object;Ljava/lang/Object;)V" } : Jvm.MethodName) jdk_44_method_2_code (3 : Nat) (Option.none : Option Jvm.ClassFile.FieldType)).before a0 Z = true := hw _ (List.mem_of_getElem? (i := 104) rfl)
theorem tw105 {Z : State} {a0 : Array Value} (hw : ∀ d ∈ tables_1, d.before a0 Z = true) : (Jvm.Cond.methodLink "java/util/ImmutableCollections$List12" (1 : Nat) ({ cls := "java/util/ImmutableCollections$AbstractImmutableList", name := "<init>", desc := "()V" } : Jvm.MethodName)).before a0 Z = true := hw _ (List.mem_of_getElem? (i := 105) rfl)
theorem tw106 {Z : State} {a0 : Array Value} (hw : ∀ d ∈ tables_1, d.before a0 Z = true) : (Jvm.Cond.instanceMethod ({ cls := "java/util/ImmutableCollections$AbstractImmutableList", name := "<init>", desc := "()V" } : Jvm.MethodName)).before a0 Z = true := hw _ (List.mem_of_getElem? (i := 106) rfl)
theorem tw109 {Z : State} {a0 : Array Value} (hw : ∀ d ∈ tables_1, d.before a0 Z = true) : (Jvm.Cond.initialized "java/util/ImmutableCollections$AbstractImmutableList").before a0 Z = true := hw _ (List.mem_of_getElem? (i := 109) rfl)
theorem tw110 {Z : State} {a0 : Array Value} (hw : ∀ d ∈ tables_1, d.before a0 Z = true) : (Jvm.Cond.code ({ cls := "java/util/ImmutableCollections$AbstractImmutableList", name := "<init>", desc := "()V" } : Jvm.MethodName) jdk_46_method_1_code (1 : Nat) (Option.none : Option Jvm.ClassFile.FieldType)).before a0 Z = true := hw _ (List.mem_of_getElem? (i := 110) rfl)
theorem tw111 {Z : State} {a0 : Array Value} (hw : ∀ d ∈ tables_1, d.before a0 Z = true) : (Jvm.Cond.methodLink "java/util/ImmutableCollections$AbstractImmutableList" (1 : Nat) ({ cls := "java/util/ImmutableCollections$AbstractImmutableCollection", name := "<init>", desc := "()V" } : Jvm.MethodName)).before a0 Z = true := hw _ (List.mem_of_getElem? (i := 111) rfl)
theorem tw112 {Z : State} {a0 : Array Value} (hw : ∀ d ∈ tables_1, d.before a0 Z = true) : (Jvm.Cond.instanceMethod ({ cls := "java/util/ImmutableCollections$AbstractImmutableCollection", name := "<init>", desc := "()V" } : Jvm.MethodName)).before a0 Z = true := hw _ (List.mem_of_getElem? (i := 112) rfl)
theorem tw115 {Z : State} {a0 : Array Value} (hw : ∀ d ∈ tables_1, d.before a0 Z = true) : (Jvm.Cond.initialized "java/util/ImmutableCollections$AbstractImmutableCollection").before a0 Z = true := hw _ (List.mem_of_getElem? (i := 115) rfl)
theorem tw116 {Z : State} {a0 : Array Value} (hw : ∀ d ∈ tables_1, d.before a0 Z = true) : (Jvm.Cond.code ({ cls := "java/util/ImmutableCollections$AbstractImmutableCollection", name := "<init>", desc := "()V" } : Jvm.MethodName) jdk_47_method_1_code (1 : Nat) (Option.none : Option Jvm.ClassFile.FieldType)).before a0 Z = true := hw _ (List.mem_of_getElem? (i := 116) rfl)
theorem tw117 {Z : State} {a0 : Array Value} (hw : ∀ d ∈ tables_1, d.before a0 Z = true) : (Jvm.Cond.methodLink "java/util/ImmutableCollections$AbstractImmutableCollection" (1 : Nat) ({ cls := "java/util/AbstractCollection", name := "<init>", desc := "()V" } : Jvm.MethodName)).before a0 Z = true := hw _ (List.mem_of_getElem? (i := 117) rfl)
theorem tw118 {Z : State} {a0 : Array Value} (hw : ∀ d ∈ tables_1, d.before a0 Z = true) : (Jvm.Cond.instanceMethod ({ cls := "java/util/AbstractCollection", name := "<init>", desc := "()V" } : Jvm.MethodName)).before a0 Z = true := hw _ (List.mem_of_getElem? (i := 118) rfl)
theorem tw121 {Z : State} {a0 : Array Value} (hw : ∀ d ∈ tables_1, d.before a0 Z = true) : (Jvm.Cond.initialized "java/util/AbstractCollection").before a0 Z = true := hw _ (List.mem_of_getElem? (i := 121) rfl)
theorem tw122 {Z : State} {a0 : Array Value} (hw : ∀ d ∈ tables_1, d.before a0 Z = true) : (Jvm.Cond.code ({ cls := "java/util/AbstractCollection", name := "<init>", desc := "()V" } : Jvm.MethodName) jdk_22_method_1_code (1 : Nat) (Option.none : Option Jvm.ClassFile.FieldType)).before a0 Z = true := hw _ (List.mem_of_getElem? (i := 122) rfl)
theorem tw123 {Z : State} {a0 : Array Value} (hw : ∀ d ∈ tables_1, d.before a0 Z = true) : (Jvm.Cond.methodLink "java/util/AbstractCollection" (1 : Nat) ({ cls := "java/lang/Object", name := "<init>", desc := "()V" } : Jvm.MethodName)).before a0 Z = true := hw _ (List.mem_of_getElem? (i := 123) rfl)
theorem tw124 {Z : State} {a0 : Array Value} (hw : ∀ d ∈ tables_1, d.before a0 Z = true) : (Jvm.Cond.methodLink "java/util/ImmutableCollections$List12" (7 : Nat) ({ cls := "java/util/Objects", name := "requireNonNull", desc := "(Ljava/lang/Object;)Ljava/lang/Object;" } : Jvm.MethodName)).before a0 Z = true := hw _ (List.mem_of_getElem? (i := 124) rfl)
theorem tw125 {Z : State} {a0 : Array Value} (hw : ∀ d ∈ tables_1, d.before a0 Z = true) : (Jvm.Cond.static ({ cls := "java/util/Objects", name := "requireNonNull", desc := "(Ljava/lang/Object;)Ljava/lang/Object;" } : Jvm.MethodName)).before a0 Z = true := hw _ (List.mem_of_getElem? (i := 125) rfl)
theorem tw126 {Z : State} {a0 : Array Value} (hw : ∀ d ∈ tables_1, d.before a0 Z = true) : (Jvm.Cond.code ({ cls := "java/util/Objects", name := "requireNonNull", desc := "(Ljava/lang/Object;)Ljava/lang/Object;" } : Jvm.MethodName) jdk_31_method_10_code (1 : Nat) (Option.some (Jvm.ClassFile.FieldType.object "java/lang/Object"))).before a0 Z = true := hw _ (List.mem_of_getElem? (i := 126) rfl)
theorem tw127 {Z : State} {a0 : Array Value} (hw : ∀ d ∈ tables_1, d.before a0 Z = true) : (Jvm.Cond.fieldLink "java/util/ImmutableCollections$List12" (13 : Nat) "java/util/ImmutableCollections$List12" "e0" "Ljava/lang/Object;").before a0 Z = true := hw _ (List.mem_of_getElem? (i := 127) rfl)
theorem tw128 {Z : State} {a0 : Array Value} (hw : ∀ d ∈ tables_1, d.before a0 Z = true) : (Jvm.Cond.laysFinal "java/util/ImmutableCollections$List12" "java/util/ImmutableCollections$List12" "e0" "Ljava/lang/Object;").before a0 Z = true := hw _ (List.mem_of_getElem? (i := 128) rfl)
theorem tw129 {Z : State} {a0 : Array Value} (hw : ∀ d ∈ tables_1, d.before a0 Z = true) : (Jvm.Cond.fieldLink "java/util/ImmutableCollections$List12" (24 : Nat) "java/util/ImmutableCollections$List12" "e1" "Ljava/lang/Object;").before a0 Z = true := hw _ (List.mem_of_getElem? (i := 129) rfl)
theorem tw130 {Z : State} {a0 : Array Value} (hw : ∀ d ∈ tables_1, d.before a0 Z = true) : (Jvm.Cond.laysFinal "java/util/ImmutableCollections$List12" "java/util/ImmutableCollections$List12" "e1" "Ljava/lang/Object;").before a0 Z = true := hw _ (List.mem_of_getElem? (i := 130) rfl)
theorem tw131 {Z : State} {a0 : Array Value} (hw : ∀ d ∈ tables_1, d.before a0 Z = true) : (Jvm.Cond.methodLink "com/example/wayfare/wayfare/market/Trip" (74 : Nat) ({ cls := "java/util/ArrayList", name := "<init>", desc := "(Ljava/util/Collection;)V" } : Jvm.MethodName)).before a0 Z = true := hw _ (List.mem_of_getElem? (i := 131) rfl)
theorem tw132 {Z : State} {a0 : Array Value} (hw : ∀ d ∈ tables_1, d.before a0 Z = true) : (Jvm.Cond.instanceMethod ({ cls := "java/util/ArrayList", name := "<init>", desc := "(Ljava/util/Collection;)V" } : Jvm.MethodName)).before a0 Z = true := hw _ (List.mem_of_getElem? (i := 132) rfl)
theorem tw133 {Z : State} {a0 : Array Value} (hw : ∀ d ∈ tables_1, d.before a0 Z = true) : (Jvm.Cond.code ({ cls := "java/util/ArrayList", name := "<init>", desc := "(Ljava/util/Collection;)V" } : Jvm.MethodName) jdk_38_method_3_code (3 : Nat) (Option.none : Option Jvm.ClassFile.FieldType)).before a0 Z = true := hw _ (List.mem_of_getElem? (i := 133) rfl)
theorem tw134 {Z : State} {a0 : Array Value} (hw : ∀ d ∈ tables_1, d.before a0 Z = true) : (Jvm.Cond.methodLink "java/util/ArrayList" (1 : Nat) ({ cls := "java/util/AbstractList", name := "<init>", desc := "()V" } : Jvm.MethodName)).before a0 Z = true := hw _ (List.mem_of_getElem? (i := 134) rfl)
theorem tw135 {Z : State} {a0 : Array Value} (hw : ∀ d ∈ tables_1, d.before a0 Z = true) : (Jvm.Cond.instanceMethod ({ cls := "java/util/AbstractList", name := "<init>", desc := "()V" } : Jvm.MethodName)).before a0 Z = true := hw _ (List.mem_of_getElem? (i := 135) rfl)
theorem tw138 {Z : State} {a0 : Array Value} (hw : ∀ d ∈ tables_1, d.before a0 Z = true) : (Jvm.Cond.initialized "java/util/AbstractList").before a0 Z = true := hw _ (List.mem_of_getElem? (i := 138) rfl)
theorem tw139 {Z : State} {a0 : Array Value} (hw : ∀ d ∈ tables_1, d.before a0 Z = true) : (Jvm.Cond.code ({ cls := "java/util/AbstractList", name := "<init>", desc := "()V" } : Jvm.MethodName) jdk_39_method_1_code (1 : Nat) (Option.none : Option Jvm.ClassFile.FieldType)).before a0 Z = true := hw _ (List.mem_of_getElem? (i := 139) rfl)
theorem tw140 {Z : State} {a0 : Array Value} (hw : ∀ d ∈ tables_1, d.before a0 Z = true) : (Jvm.Cond.methodLink "java/util/AbstractList" (1 : Nat) ({ cls := "java/util/AbstractCollection", name := "<init>", desc := "()V" } : Jvm.MethodName)).before a0 Z = true := hw _ (List.mem_of_getElem? (i := 140) rfl)
theorem tw142 {Z : State} {a0 : Array Value} (hw : ∀ d ∈ tables_1, d.before a0 Z = true) : (Jvm.Cond.fieldLink "java/util/AbstractList" (7 : Nat) "java/util/AbstractList" "modCount" "I").before a0 Z = true := hw _ (List.mem_of_getElem? (i := 142) rfl)
theorem tw143 {Z : State} {a0 : Array Value} (hw : ∀ d ∈ tables_1, d.before a0 Z = true) : (Jvm.Cond.lays "java/util/ArrayList" "java/util/AbstractList" "modCount" "I").before a0 Z = true := hw _ (List.mem_of_getElem? (i := 143) rfl)
theorem tw144 {Z : State} {a0 : Array Value} (hw : ∀ d ∈ tables_1, d.before a0 Z = true) : (Jvm.Cond.methodLink "java/util/ArrayList" (42 : Nat) ({ cls := "java/util/Collection", name := "toArray", desc := "()[Ljava/lang/Object;" } : Jvm.MethodName)).before a0 Z = true := hw _ (List.mem_of_getElem? (i := 144) rfl)
theorem tw145 {Z : State} {a0 : Array Value} (hw : ∀ d ∈ tables_1, d.before a0 Z = true) : (Jvm.Cond.declares ({ cls := "java/util/Collection", name := "toArray", desc := "()[Ljava/lang/Object;" } : Jvm.MethodName)).before a0 Z = true := hw _ (List.mem_of_getElem? (i := 145) rfl)
theorem tw146 {Z : State} {a0 : Array Value} (hw : ∀ d ∈ tables_1, d.before a0 Z = true) : (Jvm.Cond.interfaceMethod "java/util/Collection" "java/util/Collection" "toArray" "()[Ljava/lang/Object;").before a0 Z = true := hw _ (List.mem_of_getElem? (i := 146) rfl)
theorem tw147 {Z : State} {a0 : Array Value} (hw : ∀ d ∈ tables_1, d.before a0 Z = true) : (Jvm.Cond.selects "java/util/ImmutableCollections$List12" ({ cls := "java/util/Collection", name := "toArray", desc := "()[Ljava/lang/Object;" } : Jvm.MethodName) ({ cls := "java/util/ImmutableCollections$List12", name := "toArray", desc := "()[Ljava/lang/Object;" } : Jvm.MethodName)).before a0 Z = true := hw _ (List.mem_of_getElem? (i := 147) rfl)
theorem tw148 {Z : State} {a0 : Array Value} (hw : ∀ d ∈ tables_1, d.before a0 Z = true) : (Jvm.Cond.instanceMethod ({ cls := "java/util/ImmutableCollections$List12", name := "toArray", desc := "()[Ljava/lang/Object;" } : Jvm.MethodName)).before a0 Z = true := hw _ (List.mem_of_getElem? (i := 148) rfl)
theorem tw149 {Z : State} {a0 : Array Value} (hw : ∀ d ∈ tables_1, d.before a0 Z = true) : (Jvm.Cond.publicMethod ({ cls := "java/util/ImmutableCollections$List12", name := "toArray", desc := "()[Ljava/lang/Object;" } : Jvm.MethodName)).before a0 Z = true := hw _ (List.mem_of_getElem? (i := 149) rfl)
theorem tw150 {Z : State} {a0 : Array Value} (hw : ∀ d ∈ tables_1, d.before a0 Z = true) : (Jvm.Cond.unhidden "java/util/ImmutableCollections$List12" "toArray" "()[Ljava/lang/Object;").before a0 Z = true := hw _ (List.mem_of_getElem? (i := 150) rfl)
theorem tw151 {Z : State} {a0 : Array Value} (hw : ∀ d ∈ tables_1, d.before a0 Z = true) : (Jvm.Cond.castable "java/util/ImmutableCollections$List12" "java/util/Collection").before a0 Z = true := hw _ (List.mem_of_getElem? (i := 151) rfl)
theorem tw152 {Z : State} {a0 : Array Value} (hw : ∀ d ∈ tables_1, d.before a0 Z = true) : (Jvm.Cond.code ({ cls := "java/util/ImmutableCollections$List12", name := "toArray", desc := "()[Ljava/lang/Object;" } : Jvm.MethodName) jdk_44_method_10_code (1 : Nat) (Option.some (Jvm.ClassFile.FieldType.array (Jvm.ClassFile.FieldType.object "java/lang/Object")))).before a0 Z = true := hw _ (List.mem_of_getElem? (i := 152) rfl)
theorem tw153 {Z : State} {a0 : Array Value} (hw : ∀ d ∈ tables_1, d.before a0 Z = true) : (Jvm.Cond.fieldLinkNest "java/util/ImmutableCollections$List12" (19 : Nat) "java/util/ImmutableCollections" "EMPTY" "Ljava/lang/Object;" "java/util/ImmutableCollections").before a0 Z = true := hw _ (List.mem_of_getElem? (i := 153) rfl)
theorem tw155 {Z : State} {a0 : Array Value} (hw : ∀ d ∈ tables_1, d.before a0 Z = true) : (Jvm.Cond.classLink "java/util/ImmutableCollections$List12" (32 : Nat) "java/lang/Object").before a0 Z = true := hw _ (List.mem_of_getElem? (i := 155) rfl)
theorem tw156 {Z : State} {a0 : Array Value} (hw : ∀ d ∈ tables_1, d.before a0 Z = true) : (Jvm.Cond.arrayOver (Jvm.ClassFile.FieldType.object "java/lang/Object")).before a0 Z = true := hw _ (List.mem_of_getElem? (i := 156) rfl)
theorem tw157 {Z : State} {a0 : Array Value} (hw : ∀ d ∈ tables_1, d.before a0 Z = true) : (Jvm.Cond.castable "com/example/wayfare/wayfare/market/Good" "java/lang/Object").before a0 Z = true := hw _ (List.mem_of_getElem? (i := 157) rfl)
theorem tw158 {Z : State} {a0 : Array Value} (hw : ∀ d ∈ tables_1, d.before a0 Z = true) : (Jvm.Cond.fieldLink "java/util/ArrayList" (48 : Nat) "java/util/ArrayList" "size" "I").before a0 Z = true := hw _ (List.mem_of_getElem? (i := 158) rfl)
theorem tw159 {Z : State} {a0 : Array Value} (hw : ∀ d ∈ tables_1, d.before a0 Z = true) : (Jvm.Cond.lays "java/util/ArrayList" "java/util/ArrayList" "size" "I").before a0 Z = true := hw _ (List.mem_of_getElem? (i := 159) rfl)
theorem tw160 {Z : State} {a0 : Array Value} (hw : ∀ d ∈ tables_1, d.before a0 Z = true) : (Jvm.Cond.methodLink "java/util/ArrayList" (52 : Nat) ({ cls := "java/util/Collection", name := "getClass", desc := "()Ljava/lang/Class;" } : Jvm.MethodName)).before a0 Z = true := hw _ (List.mem_of_getElem? (i := 160) rfl)
theorem tw161 {Z : State} {a0 : Array Value} (hw : ∀ d ∈ tables_1, d.before a0 Z = true) : (Jvm.Cond.declares ({ cls := "java/lang/Object", name := "getClass", desc := "()Ljava/lang/Class;" } : Jvm.MethodName)).before a0 Z = true := hw _ (List.mem_of_getElem? (i := 161) rfl)
theorem tw162 {Z : State} {a0 : Array Value} (hw : ∀ d ∈ tables_1, d.before a0 Z = true) : (Jvm.Cond.interfaceMethod "java/util/Collection" "java/lang/Object" "getClass" "()Ljava/lang/Class;").before a0 Z = true := hw _ (List.mem_of_getElem? (i := 162) rfl)
theorem tw163 {Z : State} {a0 : Array Value} (hw : ∀ d ∈ tables_1, d.before a0 Z = true) : (Jvm.Cond.selects "java/util/ImmutableCollections$List12" ({ cls := "java/util/Collection", name := "getClass", desc := "()Ljava/lang/Class;" } : Jvm.MethodName) ({ cls := "java/lang/Object", name := "getClass", desc := "()Ljava/lang/Class;" } : Jvm.MethodName)).before a0 Z = true := hw _ (List.mem_of_getElem? (i := 163) rfl)
theorem tw164 {Z : State} {a0 : Array Value} (hw : ∀ d ∈ tables_1, d.before a0 Z = true) : (Jvm.Cond.instanceMethod ({ cls := "java/lang/Object", name := "getClass", desc := "()Ljava/lang/Class;" } : Jvm.MethodName)).before a0 Z = true := hw _ (List.mem_of_getElem? (i := 164) rfl)
theorem tw165 {Z : State} {a0 : Array Value} (hw : ∀ d ∈ tables_1, d.before a0 Z = true) : (Jvm.Cond.publicMethod ({ cls := "java/lang/Object", name := "getClass", desc := "()Ljava/lang/Class;" } : Jvm.MethodName)).before a0 Z = true := hw _ (List.mem_of_getElem? (i := 165) rfl)
theorem tw166 {Z : State} {a0 : Array Value} (hw : ∀ d ∈ tables_1, d.before a0 Z = true) : (Jvm.Cond.unhidden "java/util/ImmutableCollections$List12" "getClass" "()Ljava/lang/Class;").before a0 Z = true := hw _ (List.mem_of_getElem? (i := 166) rfl)
theorem tw167 {Z : State} {a0 : Array Value} (hw : ∀ d ∈ tables_1, d.before a0 Z = true) : (Jvm.Cond.native ({ cls := "java/lang/Object", name := "getClass", desc := "()Ljava/lang/Class;" } : Jvm.MethodName)).before a0 Z = true := hw _ (List.mem_of_getElem? (i := 167) rfl)
theorem tw168 {Z : State} {a0 : Array Value} (hw : ∀ d ∈ tables_1, d.before a0 Z = true) : (Jvm.Cond.classLink "java/util/ArrayList" (10 : Nat) "java/util/ArrayList").before a0 Z = true := hw _ (List.mem_of_getElem? (i := 168) rfl)
theorem tw170 {Z : State} {a0 : Array Value} (hw : ∀ d ∈ tables_1, d.before a0 Z = true) : (Jvm.Cond.classLink "java/util/ArrayList" (56 : Nat) "[Ljava/lang/Object;").before a0 Z = true := hw _ (List.mem_of_getElem? (i := 170) rfl)
theorem tw172 {Z : State} {a0 : Array Value} (hw : ∀ d ∈ tables_1, d.before a0 Z = true) : (Jvm.Cond.methodLink "java/util/ArrayList" (57 : Nat) ({ cls := "java/util/Arrays", name := "copyOf", desc := "([Ljava/lang/Object;ILjava/lang/Class;)[Ljava/lang/Object;" } : Jvm.MethodName)).before a0 Z = true := hw _ (List.mem_of_getElem? (i := 172) rfl)
theorem tw173 {Z : State} {a0 : Array Value} (hw : ∀ d ∈ tables_1, d.before a0 Z = true) : (Jvm.Cond.static ({ cls := "java/util/Arrays", name := "copyOf", desc := "([Ljava/lang/Object;ILjava/lang/Class;)[Ljava/lang/Object;" } : Jvm.MethodName)).before a0 Z = true := hw _ (List.mem_of_getElem? (i := 173) rfl)
theorem tw174 {Z : State} {a0 : Array Value} (hw : ∀ d ∈ tables_1, d.before a0 Z = true) : (Jvm.Cond.initialized "java/util/Arrays").before a0 Z = true := hw _ (List.mem_of_getElem? (i := 174) rfl)
theorem tw175 {Z : State} {a0 : Array Value} (hw : ∀ d ∈ tables_1, d.before a0 Z = true) : (Jvm.Cond.code ({ cls := "java/util/Arrays", name := "copyOf", desc := "([Ljava/lang/Object;ILjava/lang/Class;)[Ljava/lang/Object;" } : Jvm.MethodName) jdk_65_method_120_code (4 : Nat) (Option.some (Jvm.ClassFile.FieldType.array (Jvm.ClassFile.FieldType.object "java/lang/Object")))).before a0 Z = true := hw _ (List.mem_of_getElem? (i := 175) rfl)
theorem tw176 {Z : State} {a0 : Array Value} (hw : ∀ d ∈ tables_1, d.before a0 Z = true) : (Jvm.Cond.classLink "java/util/Arrays" (110 : Nat) "[Ljava/lang/Object;").before a0 Z = true := hw _ (List.mem_of_getElem? (i := 176) rfl)
theorem tw177 {Z : State} {a0 : Array Value} (hw : ∀ d ∈ tables_1, d.before a0 Z = true) : (Jvm.Cond.classLink "java/util/Arrays" (2 : Nat) "java/lang/Object").before a0 Z = true := hw _ (List.mem_of_getElem? (i := 177) rfl)
theorem tw178 {Z : State} {a0 : Array Value} (hw : ∀ d ∈ tables_1, d.before a0 Z = true) : (Jvm.Cond.methodLink "java/util/Arrays" (304 : Nat) ({ cls := "java/lang/Math", name := "min", desc := "(II)I" } : Jvm.MethodName)).before a0 Z = true := hw _ (List.mem_of_getElem? (i := 178) rfl)
theorem tw179 {Z : State} {a0 : Array Value} (hw : ∀ d ∈ tables_1, d.before a0 Z = true) : (Jvm.Cond.static ({ cls := "java/lang/Math", name := "min", desc := "(II)I" } : Jvm.MethodName)).before a0 Z = true := hw _ (List.mem_of_getElem? (i := 179) rfl)
theorem tw180 {Z : State} {a0 : Array Value} (hw : ∀ d ∈ tables_1, d.before a0 Z = true) : (Jvm.Cond.initialized "java/lang/Math").before a0 Z = true := hw _ (List.mem_of_getElem? (i := 180) rfl)
theorem tw181 {Z : State} {a0 : Array Value} (hw : ∀ d ∈ tables_1, d.before a0 Z = true) : (Jvm.Cond.code ({ cls := "java/lang/Math", name := "min", desc := "(II)I" } : Jvm.MethodName) jdk_29_method_69_code (2 : Nat) (Option.some Jvm.ClassFile.FieldType.int)).before a0 Z = true := hw _ (List.mem_of_getElem? (i := 181) rfl)
theorem tw182 {Z : State} {a0 : Array Value} (hw : ∀ d ∈ tables_1, d.before a0 Z = true) : (Jvm.Cond.methodLink "java/util/Arrays" (150 : Nat) ({ cls := "java/lang/System", name := "arraycopy", desc := "(Ljava/lang/Object;ILjava/lang/Object;II)V" } : Jvm.MethodName)).before a0 Z = true := hw _ (List.mem_of_getElem? (i := 182) rfl)
theorem tw183 {Z : State} {a0 : Array Value} (hw : ∀ d ∈ tables_1, d.before a0 Z = true) : (Jvm.Cond.static ({ cls := "java/lang/System", name := "arraycopy", desc := "(Ljava/lang/Object;ILjava/lang/Object;II)V" } : Jvm.MethodName)).before a0 Z = true := hw _ (List.mem_of_getElem? (i := 183) rfl)
theorem tw184 {Z : State} {a0 : Array Value} (hw : ∀ d ∈ tables_1, d.before a0 Z = true) : (Jvm.Cond.initialized "java/lang/System").before a0 Z = true := hw _ (List.mem_of_getElem? (i := 184) rfl)
theorem tw185 {Z : State} {a0 : Array Value} (hw : ∀ d ∈ tables_1, d.before a0 Z = true) : (Jvm.Cond.native ({ cls := "java/lang/System", name := "arraycopy", desc := "(Ljava/lang/Object;ILjava/lang/Object;II)V" } : Jvm.MethodName)).before a0 Z = true := hw _ (List.mem_of_getElem? (i := 185) rfl)
theorem tw186 {Z : State} {a0 : Array Value} (hw : ∀ d ∈ tables_1, d.before a0 Z = true) : (Jvm.Cond.fieldLink "java/util/ArrayList" (9 : Nat) "java/util/ArrayList" "elementData" "[Ljava/lang/Object;").before a0 Z = true := hw _ (List.mem_of_getElem? (i := 186) rfl)
theorem tw187 {Z : State} {a0 : Array Value} (hw : ∀ d ∈ tables_1, d.before a0 Z = true) : (Jvm.Cond.lays "java/util/ArrayList" "java/util/ArrayList" "elementData" "[Ljava/lang/Object;").before a0 Z = true := hw _ (List.mem_of_getElem? (i := 187) rfl)
theorem tw188 {Z : State} {a0 : Array Value} (hw : ∀ d ∈ tables_1, d.before a0 Z = true) : (Jvm.Cond.methodLink "com/example/wayfare/wayfare/market/Trip" (77 : Nat) ({ cls := "com/example/wayfare/wayfare/market/Good", name := "room", desc := "(Lcom/example/wayfare/wayfare/market/Hotel;I)Lcom/example/wayfare/wayfare/market/Good;" } : Jvm.MethodName)).before a0 Z = true := hw _ (List.mem_of_getElem? (i := 188) rfl)
theorem tw189 {Z : State} {a0 : Array Value} (hw : ∀ d ∈ tables_1, d.before a0 Z = true) : (Jvm.Cond.static ({ cls := "com/example/wayfare/wayfare/market/Good", name := "room", desc := "(Lcom/example/wayfare/wayfare/market/Hotel;I)Lcom/example/wayfare/wayfare/market/Good;" } : Jvm.MethodName)).before a0 Z = true := hw _ (List.mem_of_getElem? (i := 189) rfl)
theorem tw190 {Z : State} {a0 : Array Value} (hw : ∀ d ∈ tables_1, d.before a0 Z = true) : (Jvm.Cond.code ({ cls := "com/example/wayfare/wayfare/market/Good", name := "room", desc := "(Lcom/example/wayfare/wayfare/market/Hotel;I)Lcom/example/wayfare/wayfare/market/Good;" } : Jvm.MethodName) prog_50_method_4_code (2 : Nat) (Option.some (Jvm.ClassFile.FieldType.object "com/example/wayfare/wayfare/market/Good"))).before a0 Z = true := hw _ (List.mem_of_getElem? (i := 190) rfl)
theorem tw191 {Z : State} {a0 : Array Value} (hw : ∀ d ∈ tables_1, d.before a0 Z = true) : (Jvm.Cond.fieldLink "com/example/wayfare/wayfare/market/Good" (29 : Nat) "com/example/wayfare/wayfare/market/Hotel" "GOOD" "Lcom/example/wayfare/wayfare/market/Hotel;").before a0 Z = true := hw _ (List.mem_of_getElem? (i := 191) rfl)
theorem tw192 {Z : State} {a0 : Array Value} (hw : ∀ d ∈ tables_1, d.before a0 Z = true) : (Jvm.Cond.laysStatic "com/example/wayfare/wayfare/market/Hotel" "GOOD" "Lcom/example/wayfare/wayfare/market/Hotel;").before a0 Z = true := hw _ (List.mem_of_getElem? (i := 192) rfl)
theorem tw193 {Z : State} {a0 : Array Value} (hw : ∀ d ∈ tables_1, d.before a0 Z = true) : (Jvm.Cond.fieldLink "com/example/wayfare/wayfare/market/Good" (38 : Nat) "com/example/wayfare/wayfare/market/Good$Line" "CHEAP_HOTEL" "Lcom/example/wayfare/wayfare/market/Good$Line;").before a0 Z = true := hw _ (List.mem_of_getElem? (i := 193) rfl)
theorem tw194 {Z : State} {a0 : Array Value} (hw : ∀ d ∈ tables_1, d.before a0 Z = true) : (Jvm.Cond.laysStatic "com/example/wayfare/wayfare/market/Good$Line" "CHEAP_HOTEL" "Lcom/example/wayfare/wayfare/market/Good$Line;").before a0 Z = true := hw _ (List.mem_of_getElem? (i := 194) rfl)
theorem tw195 {Z : State} {a0 : Array Value} (hw : ∀ d ∈ tables_1, d.before a0 Z = true) : (Jvm.Cond.methodLink "com/example/wayfare/wayfare/market/Trip" (55 : Nat) ({ cls := "java/util/List", name := "add", desc := "(Ljava/lang/Object;)Z" } : Jvm.MethodName)).before a0 Z = true := hw _ (List.mem_of_getElem? (i := 195) rfl)
theorem tw196 {Z : State} {a0 : Array Value} (hw : ∀ d ∈ tables_1, d.before a0 Z = true) : (Jvm.Cond.declares ({ cls := "java/util/List", name := "add", desc := "(Ljava/lang/Object;)Z" } : Jvm.MethodName)).before a0 Z = true := hw _ (List.mem_of_getElem? (i := 196) rfl)
theorem tw197 {Z : State} {a0 : Array Value} (hw : ∀ d ∈ tables_1, d.before a0 Z = true) : (Jvm.Cond.interfaceMethod "java/util/List" "java/util/List" "add" "(Ljava/lang/Object;)Z").before a0 Z = true := hw _ (List.mem_of_getElem? (i := 197) rfl)
theorem tw198 {Z : State} {a0 : Array Value} (hw : ∀ d ∈ tables_1, d.before a0 Z = true) : (Jvm.Cond.selects "java/util/ArrayList" ({ cls := "java/util/List", name := "add", desc := "(Ljava/lang/Object;)Z" } : Jvm.MethodName) ({ cls := "java/util/ArrayList", name := "add", desc := "(Ljava/lang/Object;)Z" } : Jvm.MethodName)).before a0 Z = true := hw _ (List.mem_of_getElem? (i := 198) rfl)
theorem tw199 {Z : State} {a0 : Array Value} (hw : ∀ d ∈ tables_1, d.before a0 Z = true) : (Jvm.Cond.instanceMethod ({ cls := "java/util/ArrayList", name := "add", desc := "(Ljava/lang/Object;)Z" } : Jvm.MethodName)).before a0 Z = true := hw _ (List.mem_of_getElem? (i := 199) rfl)
theorem tw200 {Z : State} {a0 : Array Value} (hw : ∀ d ∈ tables_1, d.before a0 Z = true) : (Jvm.Cond.publicMethod ({ cls := "java/util/ArrayList", name := "add", desc := "(Ljava/lang/Object;)Z" } : Jvm.MethodName)).before a0 Z = true := hw _ (List.mem_of_getElem? (i := 200) rfl)
theorem tw201 {Z : State} {a0 : Array Value} (hw : ∀ d ∈ tables_1, d.before a0 Z = true) : (Jvm.Cond.unhidden "java/util/ArrayList" "add" "(Ljava/lang/Object;)Z").before a0 Z = true := hw _ (List.mem_of_getElem? (i := 201) rfl)
theorem tw202 {Z : State} {a0 : Array Value} (hw : ∀ d ∈ tables_1, d.before a0 Z = true) : (Jvm.Cond.castable "java/util/ArrayList" "java/util/List").before a0 Z = true := hw _ (List.mem_of_getElem? (i := 202) rfl)
theorem tw203 {Z : State} {a0 : Array Value} (hw : ∀ d ∈ tables_1, d.before a0 Z = true) : (Jvm.Cond.code ({ cls := "java/util/ArrayList", name := "add", desc := "(Ljava/lang/Object;)Z" } : Jvm.MethodName) jdk_38_method_25_code (2 : Nat) (Option.some Jvm.ClassFile.FieldType.boolean)).before a0 Z = true := hw _ (List.mem_of_getElem? (i := 203) rfl)
theorem tw204 {Z : State} {a0 : Array Value} (hw : ∀ d ∈ tables_1, d.before a0 Z = true) : (Jvm.Cond.fieldLink "java/util/ArrayList" (63 : Nat) "java/util/ArrayList" "modCount" "I").before a0 Z = true := hw _ (List.mem_of_getElem? (i := 204) rfl)
theorem tw205 {Z : State} {a0 : Array Value} (hw : ∀ d ∈ tables_1, d.before a0 Z = true) : (Jvm.Cond.sameField "java/util/ArrayList" "java/util/AbstractList" "modCount" "I").before a0 Z = true := hw _ (List.mem_of_getElem? (i := 205) rfl)
theorem tw206 {Z : State} {a0 : Array Value} (hw : ∀ d ∈ tables_1, d.before a0 Z = true) : (Jvm.Cond.methodLink "java/util/ArrayList" (131 : Nat) ({ cls := "java/util/ArrayList", name := "add", desc := "(Ljava/lang/Object;[Ljava/lang/Object;I)V" } : Jvm.MethodName)).before a0 Z = true := hw _ (List.mem_of_getElem? (i := 206) rfl)
theorem tw207 {Z : State} {a0 : Array Value} (hw : ∀ d ∈ tables_1, d.before a0 Z = true) : (Jvm.Cond.instanceMethod ({ cls := "java/util/ArrayList", name := "add", desc := "(Ljava/lang/Object;[Ljava/lang/Object;I)V" } : Jvm.MethodName)).before a0 Z = true := hw _ (List.mem_of_getElem? (i := 207) rfl)
theorem tw208 {Z : State} {a0 : Array Value} (hw : ∀ d ∈ tables_1, d.before a0 Z = true) : (Jvm.Cond.privateMethod ({ cls := "java/util/ArrayList", name := "add", desc := "(Ljava/lang/Object;[Ljava/lang/Object;I)V" } : Jvm.MethodName)).before a0 Z = true := hw _ (List.mem_of_getElem? (i := 208) rfl)
theorem tw209 {Z : State} {a0 : Array Value} (hw : ∀ d ∈ tables_1, d.before a0 Z = true) : (Jvm.Cond.selects "java/util/ArrayList" ({ cls := "java/util/ArrayList", name := "add", desc := "(Ljava/lang/Object;[Ljava/lang/Object;I)V" } : Jvm.MethodName) ({ cls := "java/util/ArrayList", name := "add", desc := "(Ljava/lang/Object;[Ljava/lang/Object;I)V" } : Jvm.MethodName)).before a0 Z = true := hw _ (List.mem_of_getElem? (i := 209) rfl)
theorem tw210 {Z : State} {a0 : Array Value} (hw : ∀ d ∈ tables_1, d.before a0 Z = true) : (Jvm.Cond.code ({ cls := "java/util/ArrayList", name := "add", desc := "(Ljava/lang/Object;[Ljava/lang/Object;I)V" } : Jvm.MethodName) jdk_38_method_24_code (4 : Nat) (Option.none : Option Jvm.ClassFile.FieldType)).before a0 Z = true := hw _ (List.mem_of_getElem? (i := 210) rfl)
theorem tw211 {Z : State} {a0 : Array Value} (hw : ∀ d ∈ tables_1, d.before a0 Z = true) : (Jvm.Cond.methodLink "java/util/ArrayList" (129 : Nat) ({ cls := "java/util/ArrayList", name := "grow", desc := "()[Ljava/lang/Object;" } : Jvm.MethodName)).before a0 Z = true := hw _ (List.mem_of_getElem? (i := 211) rfl)
theorem tw212 {Z : State} {a0 : Array Value} (hw : ∀ d ∈ tables_1, d.before a0 Z = true) : (Jvm.Cond.instanceMethod ({ cls := "java/util/ArrayList", name := "grow", desc := "()[Ljava/lang/Object;" } : Jvm.MethodName)).before a0 Z = true := hw _ (List.mem_of_getElem? (i := 212) rfl)
theorem tw213 {Z : State} {a0 : Array Value} (hw : ∀ d ∈ tables_1, d.before a0 Z = true) : (Jvm.Cond.privateMethod ({ cls := "java/util/ArrayList", name := "grow", desc := "()[Ljava/lang/Object;" } : Jvm.MethodName)).before a0 Z = true := hw _ (List.mem_of_getElem? (i := 213) rfl)
theorem tw214 {Z : State} {a0 : Array Value} (hw : ∀ d ∈ tables_1, d.before a0 Z = true) : (Jvm.Cond.selects "java/util/ArrayList" ({ cls := "java/util/ArrayList", name := "grow", desc := "()[Ljava/lang/Object;" } : Jvm.MethodName) ({ cls := "java/util/ArrayList", name := "grow", desc := "()[Ljava/lang/Object;" } : Jvm.MethodName)).before a0 Z = true := hw _ (List.mem_of_getElem? (i := 214) rfl)
theorem tw215 {Z : State} {a0 : Array Value} (hw : ∀ d ∈ tables_1, d.before a0 Z = true) : (Jvm.Cond.code ({ cls := "java/util/ArrayList", name := "grow", desc := "()[Ljava/lang/Object;" } : Jvm.MethodName) jdk_38_method_7_code (1 : Nat) (Option.some (Jvm.ClassFile.FieldType.array (Jvm.ClassFile.FieldType.object "java/lang/Object")))).before a0 Z = true := hw _ (List.mem_of_getElem? (i := 215) rfl)
theorem tw216 {Z : State} {a0 : Array Value} (hw : ∀ d ∈ tables_1, d.before a0 Z = true) : (Jvm.Cond.methodLink "java/util/ArrayList" (69 : Nat) ({ cls := "java/util/ArrayList", name := "grow", desc := "(I)[Ljava/lang/Object;" } : Jvm.MethodName)).before a0 Z = true := hw _ (List.mem_of_getElem? (i := 216) rfl)
theorem tw217 {Z : State} {a0 : Array Value} (hw : ∀ d ∈ tables_1, d.before a0 Z = true) : (Jvm.Cond.instanceMethod ({ cls := "java/util/ArrayList", name := "grow", desc := "(I)[Ljava/lang/Object;" } : Jvm.MethodName)).before a0 Z = true := hw _ (List.mem_of_getElem? (i := 217) rfl)
theorem tw218 {Z : State} {a0 : Array Value} (hw : ∀ d ∈ tables_1, d.before a0 Z = true) : (Jvm.Cond.privateMethod ({ cls := "java/util/ArrayList", name := "grow", desc := "(I)[Ljava/lang/Object;" } : Jvm.MethodName)).before a0 Z = true := hw _ (List.mem_of_getElem? (i := 218) rfl)
theorem tw219 {Z : State} {a0 : Array Value} (hw : ∀ d ∈ tables_1, d.before a0 Z = true) : (Jvm.Cond.selects "java/util/ArrayList" ({ cls := "java/util/ArrayList", name := "grow", desc := "(I)[Ljava/lang/Object;" } : Jvm.MethodName) ({ cls := "java/util/ArrayList", name := "grow", desc := "(I)[Ljava/lang/Object;" } : Jvm.MethodName)).before a0 Z = true := hw _ (List.mem_of_getElem? (i := 219) rfl)
theorem tw220 {Z : State} {a0 : Array Value} (hw : ∀ d ∈ tables_1, d.before a0 Z = true) : (Jvm.Cond.code ({ cls := "java/util/ArrayList", name := "grow", desc := "(I)[Ljava/lang/Object;" } : Jvm.MethodName) jdk_38_method_6_code (4 : Nat) (Option.some (Jvm.ClassFile.FieldType.array (Jvm.ClassFile.FieldType.object "java/lang/Object")))).before a0 Z = true := hw _ (List.mem_of_getElem? (i := 220) rfl)
theorem tw221 {Z : State} {a0 : Array Value} (hw : ∀ d ∈ tables_1, d.before a0 Z = true) : (Jvm.Cond.methodLink "java/util/ArrayList" (73 : Nat) ({ cls := "jdk/internal/util/ArraysSupport", name := "newLength", desc := "(III)I" } : Jvm.MethodName)).before a0 Z = true := hw _ (List.mem_of_getElem? (i := 221) rfl)
theorem tw222 {Z : State} {a0 : Array Value} (hw : ∀ d ∈ tables_1, d.before a0 Z = true) : (Jvm.Cond.static ({ cls := "jdk/internal/util/ArraysSupport", name := "newLength", desc := "(III)I" } : Jvm.MethodName)).before a0 Z = true := hw _ (List.mem_of_getElem? (i := 222) rfl)
theorem tw223 {Z : State} {a0 : Array Value} (hw : ∀ d ∈ tables_1, d.before a0 Z = true) : (Jvm.Cond.initialized "jdk/internal/util/ArraysSupport").before a0 Z = true := hw _ (List.mem_of_getElem? (i := 223) rfl)
theorem tw224 {Z : State} {a0 : Array Value} (hw : ∀ d ∈ tables_1, d.before a0 Z = true) : (Jvm.Cond.code ({ cls := "jdk/internal/util/ArraysSupport", name := "newLength", desc := "(III)I" } : Jvm.MethodName) jdk_48_method_27_code (4 : Nat) (Option.some Jvm.ClassFile.FieldType.int)).before a0 Z = true := hw _ (List.mem_of_getElem? (i := 224) rfl)
theorem tw225 {Z : State} {a0 : Array Value} (hw : ∀ d ∈ tables_1, d.before a0 Z = true) : (Jvm.Cond.methodLink "jdk/internal/util/ArraysSupport" (194 : Nat) ({ cls := "java/lang/Math", name := "max", desc := "(II)I" } : Jvm.MethodName)).before a0 Z = true := hw _ (List.mem_of_getElem? (i := 225) rfl)
theorem tw226 {Z : State} {a0 : Array Value} (hw : ∀ d ∈ tables_1, d.before a0 Z = true) : (Jvm.Cond.static ({ cls := "java/lang/Math", name := "max", desc := "(II)I" } : Jvm.MethodName)).before a0 Z = true := hw _ (List.mem_of_getElem? (i := 226) rfl)
theorem tw227 {Z : State} {a0 : Array Value} (hw : ∀ d ∈ tables_1, d.before a0 Z = true) : (Jvm.Cond.code ({ cls := "java/lang/Math", name := "max", desc := "(II)I" } : Jvm.MethodName) jdk_29_method_65_code (2 : Nat) (Option.some Jvm.ClassFile.FieldType.int)).before a0 Z = true := hw _ (List.mem_of_getElem? (i := 227) rfl)
theorem tw228 {Z : State} {a0 : Array Value} (hw : ∀ d ∈ tables_1, d.before a0 Z = true) : (Jvm.Cond.constant "jdk/internal/util/ArraysSupport" (200 : Nat) (2147483639 : Int32)).before a0 Z = true := hw _ (List.mem_of_getElem? (i := 228) rfl)
theorem tw229 {Z : State} {a0 : Array Value} (hw : ∀ d ∈ tables_1, d.before a0 Z = true) : (Jvm.Cond.methodLink "java/util/ArrayList" (66 : Nat) ({ cls := "java/util/Arrays", name := "copyOf", desc := "([Ljava/lang/Object;I)[Ljava/lang/Object;" } : Jvm.MethodName)).before a0 Z = true := hw _ (List.mem_of_getElem? (i := 229) rfl)
theorem tw230 {Z : State} {a0 : Array Value} (hw : ∀ d ∈ tables_1, d.before a0 Z = true) : (Jvm.Cond.static ({ cls := "java/util/Arrays", name := "copyOf", desc := "([Ljava/lang/Object;I)[Ljava/lang/Object;" } : Jvm.MethodName)).before a0 Z = true := hw _ (List.mem_of_getElem? (i := 230) rfl)
theorem tw231 {Z : State} {a0 : Array Value} (hw : ∀ d ∈ tables_1, d.before a0 Z = true) : (Jvm.Cond.code ({ cls := "java/util/Arrays", name := "copyOf", desc := "([Ljava/lang/Object;I)[Ljava/lang/Object;" } : Jvm.MethodName) jdk_65_method_119_code (2 : Nat) (Option.some (Jvm.ClassFile.FieldType.array (Jvm.ClassFile.FieldType.object "java/lang/Object")))).before a0 Z = true := hw _ (List.mem_of_getElem? (i := 231) rfl)
theorem tw232 {Z : State} {a0 : Array Value} (hw : ∀ d ∈ tables_1, d.before a0 Z = true) : (Jvm.Cond.methodLink "java/util/Arrays" (86 : Nat) ({ cls := "java/lang/Object", name := "getClass", desc := "()Ljava/lang/Class;" } : Jvm.MethodName)).before a0 Z = true := hw _ (List.mem_of_getElem? (i := 232) rfl)
theorem tw233 {Z : State} {a0 : Array Value} (hw : ∀ d ∈ tables_1, d.before a0 Z = true) : (Jvm.Cond.selects "[Ljava/lang/Object;" ({ cls := "java/lang/Object", name := "getClass", desc := "()Ljava/lang/Class;" } : Jvm.MethodName) ({ cls := "java/lang/Object", name := "getClass", desc := "()Ljava/lang/Class;" } : Jvm.MethodName)).before a0 Z = true := hw _ (List.mem_of_getElem? (i := 233) rfl)
theorem tw234 {Z : State} {a0 : Array Value} (hw : ∀ d ∈ tables_1, d.before a0 Z = true) : (Jvm.Cond.methodLink "java/util/Arrays" (300 : Nat) ({ cls := "java/util/Arrays", name := "copyOf", desc := "([Ljava/lang/Object;ILjava/lang/Class;)[Ljava/lang/Object;" } : Jvm.MethodName)).before a0 Z = true := hw _ (List.mem_of_getElem? (i := 234) rfl)
theorem tw235 {Z : State} {a0 : Array Value} (hw : ∀ d ∈ tables_1, d.before a0 Z = true) : (Jvm.Cond.methodLink "com/example/wayfare/wayfare/market/TripNightInTownPinLaw" (30 : Nat) ({ cls := "com/example/wayfare/wayfare/market/Good", name := "room", desc := "(Lcom/example/wayfare/wayfare/market/Hotel;I)Lcom/example/wayfare/wayfare/market/Good;" } : Jvm.MethodName)).before a0 Z = true := hw _ (List.mem_of_getElem? (i := 235) rfl)
theorem tw236 {Z : State} {a0 : Array Value} (hw : ∀ d ∈ tables_1, d.before a0 Z = true) : (Jvm.Cond.methodLink "com/example/wayfare/wayfare/market/TripNightInTownPinLaw" (36 : Nat) ({ cls := "java/util/List", name := "size", desc := "()I" } : Jvm.MethodName)).before a0 Z = true := hw _ (List.mem_of_getElem? (i := 236) rfl)
theorem tw237 {Z : State} {a0 : Array Value} (hw : ∀ d ∈ tables_1, d.before a0 Z = true) : (Jvm.Cond.declares ({ cls := "java/util/List", name := "size", desc := "()I" } : Jvm.MethodName)).before a0 Z = true := hw _ (List.mem_of_getElem? (i := 237) rfl)
theorem tw238 {Z : State} {a0 : Array Value} (hw : ∀ d ∈ tables_1, d.before a0 Z = true) : (Jvm.Cond.interfaceMethod "java/util/List" "java/util/List" "size" "()I").before a0 Z = true := hw _ (List.mem_of_getElem? (i := 238) rfl)
theorem tw239 {Z : State} {a0 : Array Value} (hw : ∀ d ∈ tables_1, d.before a0 Z = true) : (Jvm.Cond.selects "java/util/ArrayList" ({ cls := "java/util/List", name := "size", desc := "()I" } : Jvm.MethodName) ({ cls := "java/util/ArrayList", name := "size", desc := "()I" } : Jvm.MethodName)).before a0 Z = true := hw _ (List.mem_of_getElem? (i := 239) rfl)
theorem tw240 {Z : State} {a0 : Array Value} (hw : ∀ d ∈ tables_1, d.before a0 Z = true) : (Jvm.Cond.instanceMethod ({ cls := "java/util/ArrayList", name := "size", desc := "()I" } : Jvm.MethodName)).before a0 Z = true := hw _ (List.mem_of_getElem? (i := 240) rfl)
theorem tw241 {Z : State} {a0 : Array Value} (hw : ∀ d ∈ tables_1, d.before a0 Z = true) : (Jvm.Cond.publicMethod ({ cls := "java/util/ArrayList", name := "size", desc := "()I" } : Jvm.MethodName)).before a0 Z = true := hw _ (List.mem_of_getElem? (i := 241) rfl)
theorem tw242 {Z : State} {a0 : Array Value} (hw : ∀ d ∈ tables_1, d.before a0 Z = true) : (Jvm.Cond.unhidden "java/util/ArrayList" "size" "()I").before a0 Z = true := hw _ (List.mem_of_getElem? (i := 242) rfl)
theorem tw243 {Z : State} {a0 : Array Value} (hw : ∀ d ∈ tables_1, d.before a0 Z = true) : (Jvm.Cond.code ({ cls := "java/util/ArrayList", name := "size", desc := "()I" } : Jvm.MethodName) jdk_38_method_8_code (1 : Nat) (Option.some Jvm.ClassFile.FieldType.int)).before a0 Z = true := hw _ (List.mem_of_getElem? (i := 243) rfl)
theorem tw244 {Z : State} {a0 : Array Value} (hw : ∀ d ∈ tables_1, d.before a0 Z = true) : (Jvm.Cond.methodLink "com/example/wayfare/wayfare/market/TripNightInTownPinLaw" (42 : Nat) ({ cls := "com/example/wayfare/wayfare/market/TripNightInTownPinLaw", name := "at", desc := "(Ljava/util/List;IILcom/example/wayfare/wayfare/market/Good;)Z" } : Jvm.MethodName)).before a0 Z = true := hw _ (List.mem_of_getElem? (i := 244) rfl)
theorem tw245 {Z : State} {a0 : Array Value} (hw : ∀ d ∈ tables_1, d.before a0 Z = true) : (Jvm.Cond.static ({ cls := "com/example/wayfare/wayfare/market/TripNightInTownPinLaw", name := "at", desc := "(Ljava/util/List;IILcom/example/wayfare/wayfare/market/Good;)Z" } : Jvm.MethodName)).before a0 Z = true := hw _ (List.mem_of_getElem? (i := 245) rfl)
theorem tw246 {Z : State} {a0 : Array Value} (hw : ∀ d ∈ tables_1, d.before a0 Z = true) : (Jvm.Cond.initialized "com/example/wayfare/wayfare/market/TripNightInTownPinLaw").before a0 Z = true := hw _ (List.mem_of_getElem? (i := 246) rfl)
theorem tw247 {Z : State} {a0 : Array Value} (hw : ∀ d ∈ tables_1, d.before a0 Z = true) : (Jvm.Cond.code ({ cls := "com/example/wayfare/wayfare/market/TripNightInTownPinLaw", name := "at", desc := "(Ljava/util/List;IILcom/example/wayfare/wayfare/market/Good;)Z" } : Jvm.MethodName) method_3_code (4 : Nat) (Option.some Jvm.ClassFile.FieldType.boolean)).before a0 Z = true := hw _ (List.mem_of_getElem? (i := 247) rfl)
theorem tw248 {Z : State} {a0 : Array Value} (hw : ∀ d ∈ tables_1, d.before a0 Z = true) : (Jvm.Cond.methodLink "com/example/wayfare/wayfare/market/TripNightInTownPinLaw" (48 : Nat) ({ cls := "java/util/List", name := "get", desc := "(I)Ljava/lang/Object;" } : Jvm.MethodName)).before a0 Z = true := hw _ (List.mem_of_getElem? (i := 248) rfl)
theorem tw249 {Z : State} {a0 : Array Value} (hw : ∀ d ∈ tables_1, d.before a0 Z = true) : (Jvm.Cond.selects "java/util/ArrayList" ({ cls := "java/util/List", name := "get", desc := "(I)Ljava/lang/Object;" } : Jvm.MethodName) ({ cls := "java/util/ArrayList", name := "get", desc := "(I)Ljava/lang/Object;" } : Jvm.MethodName)).before a0 Z = true := hw _ (List.mem_of_getElem? (i := 249) rfl)
theorem tw250 {Z : State} {a0 : Array Value} (hw : ∀ d ∈ tables_1, d.before a0 Z = true) : (Jvm.Cond.instanceMethod ({ cls := "java/util/ArrayList", name := "get", desc := "(I)Ljava/lang/Object;" } : Jvm.MethodName)).before a0 Z = true := hw _ (List.mem_of_getElem? (i := 250) rfl)
theorem tw251 {Z : State} {a0 : Array Value} (hw : ∀ d ∈ tables_1, d.before a0 Z = true) : (Jvm.Cond.publicMethod ({ cls := "java/util/ArrayList", name := "get", desc := "(I)Ljava/lang/Object;" } : Jvm.MethodName)).before a0 Z = true := hw _ (List.mem_of_getElem? (i := 251) rfl)
theorem tw252 {Z : State} {a0 : Array Value} (hw : ∀ d ∈ tables_1, d.before a0 Z = true) : (Jvm.Cond.unhidden "java/util/ArrayList" "get" "(I)Ljava/lang/Object;").before a0 Z = true := hw _ (List.mem_of_getElem? (i := 252) rfl)
theorem tw253 {Z : State} {a0 : Array Value} (hw : ∀ d ∈ tables_1, d.before a0 Z = true) : (Jvm.Cond.code ({ cls := "java/util/ArrayList", name := "get", desc := "(I)Ljava/lang/Object;" } : Jvm.MethodName) jdk_38_method_20_code (2 : Nat) (Option.some (Jvm.ClassFile.FieldType.object "java/lang/Object"))).before a0 Z = true := hw _ (List.mem_of_getElem? (i := 253) rfl)
theorem tw254 {Z : State} {a0 : Array Value} (hw : ∀ d ∈ tables_1, d.before a0 Z = true) : (Jvm.Cond.methodLink "java/util/ArrayList" (118 : Nat) ({ cls := "java/util/Objects", name := "checkIndex", desc := "(II)I" } : Jvm.MethodName)).before a0 Z = true := hw _ (List.mem_of_getElem? (i := 254) rfl)
theorem tw255 {Z : State} {a0 : Array Value} (hw : ∀ d ∈ tables_1, d.before a0 Z = true) : (Jvm.Cond.static ({ cls := "java/util/Objects", name := "checkIndex", desc := "(II)I" } : Jvm.MethodName)).before a0 Z = true := hw _ (List.mem_of_getElem? (i := 255) rfl)
theorem tw256 {Z : State} {a0 : Array Value} (hw : ∀ d ∈ tables_1, d.before a0 Z = true) : (Jvm.Cond.code ({ cls := "java/util/Objects", name := "checkIndex", desc := "(II)I" } : Jvm.MethodName) jdk_31_method_17_code (2 : Nat) (Option.some Jvm.ClassFile.FieldType.int)).before a0 Z = true := hw _ (List.mem_of_getElem? (i := 256) rfl)
theorem tw257 {Z : State} {a0 : Array Value} (hw : ∀ d ∈ tables_1, d.before a0 Z = true) : (Jvm.Cond.methodLink "java/util/Objects" (105 : Nat) ({ cls := "jdk/internal/util/Preconditions", name := "checkIndex", desc := "(IILjava/util/function/BiFunction;)I" } : Jvm.MethodName)).before a0 Z = true := hw _ (List.mem_of_getElem? (i := 257) rfl)
theorem tw258 {Z : State} {a0 : Array Value} (hw : ∀ d ∈ tables_1, d.before a0 Z = true) : (Jvm.Cond.static ({ cls := "jdk/internal/util/Preconditions", name := "checkIndex", desc := "(IILjava/util/function/BiFunction;)I" } : Jvm.MethodName)).before a0 Z = true := hw _ (List.mem_of_getElem? (i := 258) rfl)
theorem tw259 {Z : State} {a0 : Array Value} (hw : ∀ d ∈ tables_1, d.before a0 Z = true) : (Jvm.Cond.initialized "jdk/internal/util/Preconditions").before a0 Z = true := hw _ (List.mem_of_getElem? (i := 259) rfl)
theorem tw260 {Z : State} {a0 : Array Value} (hw : ∀ d ∈ tables_1, d.before a0 Z = true) : (Jvm.Cond.code ({ cls := "jdk/internal/util/Preconditions", name := "checkIndex", desc := "(IILjava/util/function/BiFunction;)I" } : Jvm.MethodName) jdk_41_method_11_code (3 : Nat) (Option.some Jvm.ClassFile.FieldType.int)).before a0 Z = true := hw _ (List.mem_of_getElem? (i := 260) rfl)
theorem tw261 {Z : State} {a0 : Array Value} (hw : ∀ d ∈ tables_1, d.before a0 Z = true) : (Jvm.Cond.methodLink "java/util/ArrayList" (123 : Nat) ({ cls := "java/util/ArrayList", name := "elementData", desc := "(I)Ljava/lang/Object;" } : Jvm.MethodName)).before a0 Z = true := hw _ (List.mem_of_getElem? (i := 261) rfl)
theorem tw262 {Z : State} {a0 : Array Value} (hw : ∀ d ∈ tables_1, d.before a0 Z = true) : (Jvm.Cond.declares ({ cls := "java/util/ArrayList", name := "elementData", desc := "(I)Ljava/lang/Object;" } : Jvm.MethodName)).before a0 Z = true := hw _ (List.mem_of_getElem? (i := 262) rfl)
theorem tw263 {Z : State} {a0 : Array Value} (hw : ∀ d ∈ tables_1, d.before a0 Z = true) : (Jvm.Cond.instanceMethod ({ cls := "java/util/ArrayList", name := "elementData", desc := "(I)Ljava/lang/Object;" } : Jvm.MethodName)).before a0 Z = true := hw _ (List.mem_of_getElem? (i := 263) rfl)
theorem tw264 {Z : State} {a0 : Array Value} (hw : ∀ d ∈ tables_1, d.before a0 Z = true) : (Jvm.Cond.selects "java/util/ArrayList" ({ cls := "java/util/ArrayList", name := "elementData", desc := "(I)Ljava/lang/Object;" } : Jvm.MethodName) ({ cls := "java/util/ArrayList", name := "elementData", desc := "(I)Ljava/lang/Object;" } : Jvm.MethodName)).before a0 Z = true := hw _ (List.mem_of_getElem? (i := 264) rfl)
theorem tw265 {Z : State} {a0 : Array Value} (hw : ∀ d ∈ tables_1, d.before a0 Z = true) : (Jvm.Cond.code ({ cls := "java/util/ArrayList", name := "elementData", desc := "(I)Ljava/lang/Object;" } : Jvm.MethodName) jdk_38_method_18_code (2 : Nat) (Option.some (Jvm.ClassFile.FieldType.object "java/lang/Object"))).before a0 Z = true := hw _ (List.mem_of_getElem? (i := 265) rfl)
theorem tw266 {Z : State} {a0 : Array Value} (hw : ∀ d ∈ tables_1, d.before a0 Z = true) : (Jvm.Cond.fieldLink "com/example/wayfare/wayfare/market/TripNightInTownPinLaw" (8 : Nat) "com/example/wayfare/wayfare/market/Hotel" "GOOD" "Lcom/example/wayfare/wayfare/market/Hotel;").before a0 Z = true := hw _ (List.mem_of_getElem? (i := 266) rfl)
theorem tw267 {Z : State} {a0 : Array Value} (hw : ∀ d ∈ tables_1, d.before a0 Z = true) : (Jvm.Cond.fieldLink "com/example/wayfare/wayfare/market/Good" (35 : Nat) "com/example/wayfare/wayfare/market/Good$Line" "GOOD_HOTEL" "Lcom/example/wayfare/wayfare/market/Good$Line;").before a0 Z = true := hw _ (List.mem_of_getElem? (i := 267) rfl)
theorem tw268 {Z : State} {a0 : Array Value} (hw : ∀ d ∈ tables_1, d.before a0 Z = true) : (Jvm.Cond.laysStatic "com/example/wayfare/wayfare/market/Good$Line" "GOOD_HOTEL" "Lcom/example/wayfare/wayfare/market/Good$Line;").before a0 Z = true := hw _ (List.mem_of_getElem? (i := 268) rfl)
theorem pd_0 : parseMethodDescriptor "()I" = some ⟨[], some .int⟩ := by decide +kernel
theorem pd_1 : parseMethodDescriptor "(I)Ljava/lang/Object;" = some ⟨[.int], some (.object "java/lang/Object")⟩ := by decide +kernel
theorem pd_2 : parseMethodDescriptor "(Lcom/example/wayfare/wayfare/market/Good$Line;I)Lcom/example/wayfare/wayfare/market/Good;" = some ⟨[(.object "com/example/wayfare/wayfare/market/Good$Line"), .int], some (.object "com/example/wayfare/wayfare/market/Good")⟩ := by decide +kernel
theorem pd_3 : parseMethodDescriptor "()V" = some ⟨[], none⟩ := by decide +kernel
theorem pd_4 : parseMethodDescriptor "(II)V" = some ⟨[.int, .int], none⟩ := by decide +kernel
theorem pd_5 : parseMethodDescriptor "(Ljava/lang/Object;Ljava/lang/String;)Ljava/lang/Object;" = some ⟨[(.object "java/lang/Object"), (.object "java/lang/String")], some (.object "java/lang/Object")⟩ := by decide +kernel
theorem pd_6 : parseMethodDescriptor "(IILcom/example/wayfare/wayfare/market/Hotel;)V" = some ⟨[.int, .int, (.object "com/example/wayfare/wayfare/market/Hotel")], none⟩ := by decide +kernel
theorem pd_7 : parseMethodDescriptor "(I)Z" = some ⟨[.int], some .boolean⟩ := by decide +kernel
theorem pd_8 : parseMethodDescriptor "(I)Lcom/example/wayfare/wayfare/market/Good;" = some ⟨[.int], some (.object "com/example/wayfare/wayfare/market/Good")⟩ := by decide +kernel
theorem pd_9 : parseMethodDescriptor "(Ljava/lang/Object;)Ljava/lang/Object;" = some ⟨[(.object "java/lang/Object")], some (.object "java/lang/Object")⟩ := by decide +kernel
theorem pd_10 : parseMethodDescriptor "(Ljava/lang/Object;Ljava/lang/Object;)V" = some ⟨[(.object "java/lang/Object"), (.object "java/lang/Object")], none⟩ := by decide +kernel
theorem pd_11 : parseMethodDescriptor "(Ljava/lang/Object;Ljava/lang/Object;)Ljava/util/List;" = some ⟨[(.object "java/lang/Object"), (.object "java/lang/Object")], some (.object "java/util/List")⟩ := by decide +kernel
theorem pd_12 : parseMethodDescriptor "()[Ljava/lang/Object;" = some ⟨[], some (.array (.object "java/lang/Object"))⟩ := by decide +kernel
theorem pd_13 : parseMethodDescriptor "(II)I" = some ⟨[.int, .int], some .int⟩ := by decide +kernel
theorem pd_14 : parseMethodDescriptor "([Ljava/lang/Object;ILjava/lang/Class;)[Ljava/lang/Object;" = some ⟨[(.array (.object "java/lang/Object")), .int, (.object "java/lang/Class")], some (.array (.object "java/lang/Object"))⟩ := by decide +kernel
theorem pd_15 : parseMethodDescriptor "(Ljava/util/Collection;)V" = some ⟨[(.object "java/util/Collection")], none⟩ := by decide +kernel
theorem pd_16 : parseMethodDescriptor "(Lcom/example/wayfare/wayfare/market/Hotel;I)Lcom/example/wayfare/wayfare/market/Good;" = some ⟨[(.object "com/example/wayfare/wayfare/market/Hotel"), .int], some (.object "com/example/wayfare/wayfare/market/Good")⟩ := by decide +kernel
theorem pd_17 : parseMethodDescriptor "(III)I" = some ⟨[.int, .int, .int], some .int⟩ := by decide +kernel
theorem pd_18 : parseMethodDescriptor "([Ljava/lang/Object;I)[Ljava/lang/Object;" = some ⟨[(.array (.object "java/lang/Object")), .int], some (.array (.object "java/lang/Object"))⟩ := by decide +kernel
theorem pd_19 : parseMethodDescriptor "(I)[Ljava/lang/Object;" = some ⟨[.int], some (.array (.object "java/lang/Object"))⟩ := by decide +kernel
theorem pd_20 : parseMethodDescriptor "(Ljava/lang/Object;[Ljava/lang/Object;I)V" = some ⟨[(.object "java/lang/Object"), (.array (.object "java/lang/Object")), .int], none⟩ := by decide +kernel
theorem pd_21 : parseMethodDescriptor "(Ljava/lang/Object;)Z" = some ⟨[(.object "java/lang/Object")], some .boolean⟩ := by decide +kernel
theorem pd_22 : parseMethodDescriptor "()Ljava/util/List;" = some ⟨[], some (.object "java/util/List")⟩ := by decide +kernel
theorem pd_23 : parseMethodDescriptor "(IILjava/util/function/BiFunction;)I" = some ⟨[.int, .int, (.object "java/util/function/BiFunction")], some .int⟩ := by decide +kernel
theorem pd_24 : parseMethodDescriptor "(Ljava/util/List;IILcom/example/wayfare/wayfare/market/Good;)Z" = some ⟨[(.object "java/util/List"), .int, .int, (.object "com/example/wayfare/wayfare/market/Good")], some .boolean⟩ := by decide +kernel
theorem own_wS {Z : State} {a0 : Array Value} (hw : ∀ d ∈ tables_1, d.before a0 Z = true) : ∀ a ∈ Bundle.stringAtoms, a.before a0 Z = true := fun d hd => by
  simp only [Bundle.stringAtoms, Bundle.sN, List.mem_cons, List.not_mem_nil, or_false] at hd
  rcases hd with rfl | rfl | rfl | rfl | rfl | rfl | rfl
  · exact hw _ (List.mem_of_getElem? (i := 22) rfl)
  · exact hw _ (List.mem_of_getElem? (i := 23) rfl)
  · exact hw _ (List.mem_of_getElem? (i := 24) rfl)
  · exact hw _ (List.mem_of_getElem? (i := 25) rfl)
  · exact hw _ (List.mem_of_getElem? (i := 26) rfl)
  · exact hw _ (List.mem_of_getElem? (i := 27) rfl)
  · exact hw _ (List.mem_of_getElem? (i := 28) rfl)
theorem pn_0 : plainName "java/lang/Enum" = true := by first | (simp [plainName, overriddenIn]; done) | decide +kernel
theorem pn_1 : plainName "java/util/ImmutableCollections$ListN" = true := by first | (simp [plainName, overriddenIn]; done) | decide +kernel
theorem pn_2 : plainName "com/example/wayfare/wayfare/market/Good" = true := by first | (simp [plainName, overriddenIn]; done) | decide +kernel
theorem pn_3 : plainName "com/example/wayfare/wayfare/market/Trip" = true := by first | (simp [plainName, overriddenIn]; done) | decide +kernel
theorem pn_4 : plainName "java/lang/Record" = true := by first | (simp [plainName, overriddenIn]; done) | decide +kernel
theorem pn_5 : plainName "java/util/Objects" = true := by first | (simp [plainName, overriddenIn]; done) | decide +kernel
theorem pn_6 : plainName "java/util/AbstractCollection" = true := by first | (simp [plainName, overriddenIn]; done) | decide +kernel
theorem pn_7 : plainName "java/util/ImmutableCollections$AbstractImmutableCollection" = true := by first | (simp [plainName, overriddenIn]; done) | decide +kernel
theorem pn_8 : plainName "java/util/ImmutableCollections$AbstractImmutableList" = true := by first | (simp [plainName, overriddenIn]; done) | decide +kernel
theorem pn_9 : plainName "java/util/ImmutableCollections$List12" = true := by first | (simp [plainName, overriddenIn]; done) | decide +kernel
theorem pn_10 : plainName "java/util/List" = true := by first | (simp [plainName, overriddenIn]; done) | decide +kernel
theorem pn_11 : plainName "java/util/AbstractList" = true := by first | (simp [plainName, overriddenIn]; done) | decide +kernel
theorem pn_12 : plainName "java/util/Arrays" = true := by first | (simp [plainName, overriddenIn]; done) | decide +kernel
theorem pn_13 : plainName "java/util/ArrayList" = true := by first | (simp [plainName, overriddenIn]; done) | decide +kernel
theorem pn_14 : plainName "jdk/internal/util/ArraysSupport" = true := by first | (simp [plainName, overriddenIn]; done) | decide +kernel
theorem pn_15 : plainName "jdk/internal/util/Preconditions" = true := by first | (simp [plainName, overriddenIn]; done) | decide +kernel
theorem pn_16 : plainName "com/example/wayfare/wayfare/market/TripNightInTownPinLaw" = true := by first | (simp [plainName, overriddenIn]; done) | decide +kernel
abbrev xs0 : String := "(Lcom/example/wayfare/wayfare/market/Good$Line;I)Lcom/example/wayfare/wayfare/market/Good;"
abbrev xs1 : String := "(Lcom/example/wayfare/wayfare/market/Hotel;I)Lcom/example/wayfare/wayfare/market/Good;"
abbrev xs2 : String := "(Ljava/util/List;IILcom/example/wayfare/wayfare/market/Good;)Z"
abbrev xs3 : String := "java/util/ImmutableCollections$AbstractImmutableCollection"
abbrev xs4 : String := "([Ljava/lang/Object;ILjava/lang/Class;)[Ljava/lang/Object;"
abbrev xs5 : String := "(Ljava/lang/Object;Ljava/lang/String;)Ljava/lang/Object;"
abbrev xs6 : String := "com/example/wayfare/wayfare/market/TripNightInTownPinLaw"
abbrev xs7 : String := "(Ljava/lang/Object;Ljava/lang/Object;)Ljava/util/List;"
abbrev xs8 : String := "java/util/ImmutableCollections$AbstractImmutableList"
abbrev xs9 : String := "(IILcom/example/wayfare/wayfare/market/Hotel;)V"
abbrev xs10 : String := "Lcom/example/wayfare/wayfare/market/Good$Line;"
abbrev xs11 : String := "com/example/wayfare/wayfare/market/Good$Line"
abbrev xs12 : String := "(I)Lcom/example/wayfare/wayfare/market/Good;"
abbrev xs13 : String := "Lcom/example/wayfare/wayfare/market/Hotel;"
abbrev xs14 : String := "([Ljava/lang/Object;I)[Ljava/lang/Object;"
abbrev xs15 : String := "(Ljava/lang/Object;[Ljava/lang/Object;I)V"
abbrev xs16 : String := "com/example/wayfare/wayfare/market/Hotel"
abbrev xs17 : String := "com/example/wayfare/wayfare/market/Good"
abbrev xs18 : String := "com/example/wayfare/wayfare/market/Trip"
abbrev xs19 : String := "(Ljava/lang/Object;Ljava/lang/Object;)V"
abbrev xs20 : String := "(Ljava/lang/Object;)Ljava/lang/Object;"
abbrev xs21 : String := "java/util/ImmutableCollections$List12"
abbrev xs22 : String := "java/util/ImmutableCollections$ListN"
abbrev xs23 : String := "(IILjava/util/function/BiFunction;)I"
abbrev xs24 : String := "jdk/internal/util/ArraysSupport"
abbrev xs25 : String := "jdk/internal/util/Preconditions"
abbrev xs26 : String := "java/util/ImmutableCollections"
abbrev xs27 : String := "java/util/AbstractCollection"
abbrev xs28 : String := "(Ljava/util/Collection;)V"
abbrev xs29 : String := "java/util/AbstractList"
abbrev xs30 : String := "(I)[Ljava/lang/Object;"
abbrev xs31 : String := "(I)Ljava/lang/Object;"
abbrev xs32 : String := "()[Ljava/lang/Object;"
abbrev xs33 : String := "(Ljava/lang/Object;)Z"
abbrev xs34 : String := "[Ljava/lang/Object;"
abbrev xs35 : String := "java/util/ArrayList"
abbrev xs36 : String := "Ljava/lang/Object;"
abbrev xs37 : String := "()Ljava/util/List;"
abbrev xs38 : String := "java/util/Objects"
abbrev xs39 : String := "java/lang/Object"
abbrev xs40 : String := "Ljava/util/List;"
abbrev xs41 : String := "java/lang/Record"
abbrev xs42 : String := "java/util/Arrays"
abbrev xs43 : String := "java/lang/Enum"
abbrev xs44 : String := "java/util/List"
abbrev xs45 : String := "requireNonNull"
abbrev xs46 : String := "java/lang/Math"
abbrev xm0 : MethodName := (⟨xs18, "nightInTown", "(I)Z"⟩ : MethodName)
abbrev xm1 : MethodName := (⟨xs24, "newLength", "(III)I"⟩ : MethodName)
abbrev xm2 : MethodName := (⟨xs38, "checkIndex", "(II)I"⟩ : MethodName)
abbrev xm3 : MethodName := (⟨xs18, "checkDays", "(II)V"⟩ : MethodName)
abbrev xm4 : MethodName := (⟨xs35, "elementData", xs31⟩ : MethodName)
abbrev xm5 : MethodName := (⟨xs25, "checkIndex", xs23⟩ : MethodName)
abbrev xm6 : MethodName := (⟨xs17, "outflight", xs12⟩ : MethodName)
abbrev xm7 : MethodName := (⟨xs43, "ordinal", "()I"⟩ : MethodName)
abbrev xm8 : MethodName := (⟨xs11, "ordinal", "()I"⟩ : MethodName)
abbrev xm9 : MethodName := (⟨xs17, "inflight", xs12⟩ : MethodName)
abbrev xm10 : MethodName := (⟨xs41, "<init>", "()V"⟩ : MethodName)
abbrev xm11 : MethodName := (⟨xs27, "<init>", "()V"⟩ : MethodName)
abbrev xm12 : MethodName := (⟨xs29, "<init>", "()V"⟩ : MethodName)
abbrev xm13 : MethodName := (⟨xs21, "toArray", xs32⟩ : MethodName)
abbrev xm14 : MethodName := (⟨xs3, "<init>", "()V"⟩ : MethodName)
abbrev xm15 : MethodName := (⟨xs8, "<init>", "()V"⟩ : MethodName)
abbrev xm16 : MethodName := (⟨xs21, "<init>", xs19⟩ : MethodName)
abbrev xm17 : MethodName := (⟨xs46, "min", "(II)I"⟩ : MethodName)
abbrev xm18 : MethodName := (⟨xs35, "<init>", xs28⟩ : MethodName)
abbrev xm19 : MethodName := (⟨xs46, "max", "(II)I"⟩ : MethodName)
abbrev xm20 : MethodName := (⟨xs42, "copyOf", xs14⟩ : MethodName)
abbrev xm21 : MethodName := (⟨xs18, "<init>", xs9⟩ : MethodName)
abbrev xm22 : MethodName := (⟨xs42, "copyOf", xs4⟩ : MethodName)
abbrev xm23 : MethodName := (⟨xs18, "goods", xs37⟩ : MethodName)
abbrev xm24 : MethodName := (⟨xs35, "size", "()I"⟩ : MethodName)
abbrev xm25 : MethodName := (⟨xs44, "size", "()I"⟩ : MethodName)
abbrev xm26 : MethodName := (⟨xs35, "grow", xs30⟩ : MethodName)
abbrev xm27 : MethodName := (⟨xs35, "grow", xs32⟩ : MethodName)
abbrev xm28 : MethodName := (⟨xs22, "get", xs31⟩ : MethodName)
abbrev xm29 : MethodName := (⟨xs44, "get", xs31⟩ : MethodName)
abbrev xm30 : MethodName := (⟨xs17, "room", xs1⟩ : MethodName)
abbrev xm31 : MethodName := (⟨xs35, "add", xs15⟩ : MethodName)
abbrev xm32 : MethodName := (⟨xs35, "add", xs33⟩ : MethodName)
abbrev xm33 : MethodName := (⟨xs44, "add", xs33⟩ : MethodName)
abbrev xm34 : MethodName := (⟨xs35, "get", xs31⟩ : MethodName)
abbrev xm35 : MethodName := (⟨xs38, xs45, xs20⟩ : MethodName)
abbrev xm36 : MethodName := (⟨xs17, "of", xs0⟩ : MethodName)
abbrev xm37 : MethodName := (⟨xs38, xs45, xs5⟩ : MethodName)
abbrev xm38 : MethodName := (⟨xs44, "of", xs7⟩ : MethodName)
abbrev xm39 : MethodName := (⟨xs6, "at", xs2⟩ : MethodName)
abbrev xr0 : Room := ({ frames := 7, cells := 5, slots := 12, locals := 102 } : Room)
abbrev xr1 : Room := ({ frames := 7, cells := 6, slots := 16, locals := 102 } : Room)
abbrev xr2 : Room := ({ frames := 7, cells := 7, slots := 22, locals := 102 } : Room)
abbrev xr3 : Room := ({ frames := 2, cells := 2, slots := 24, locals := 24 } : Room)
abbrev xr4 : Room := ({ frames := 1, cells := 0, slots := 0, locals := 13 } : Room)
abbrev xr5 : Room := ({ frames := 2, cells := 0, slots := 0, locals := 26 } : Room)
abbrev xr6 : Room := ({ frames := 1, cells := 0, slots := 0, locals := 12 } : Room)
abbrev xr7 : Room := ({ frames := 2, cells := 0, slots := 0, locals := 24 } : Room)
abbrev xr8 : Room := ({ frames := 3, cells := 0, slots := 0, locals := 36 } : Room)
abbrev xr9 : Room := ({ frames := 4, cells := 0, slots := 0, locals := 48 } : Room)
abbrev xr10 : Room := ({ frames := 5, cells := 1, slots := 2, locals := 63 } : Room)
abbrev xr11 : Room := ({ frames := 1, cells := 1, slots := 2, locals := 18 } : Room)
abbrev xr12 : Room := ({ frames := 3, cells := 2, slots := 4, locals := 36 } : Room)
abbrev xr13 : Room := ({ frames := 1, cells := 0, slots := 0, locals := 14 } : Room)
abbrev xr14 : Room := ({ frames := 1, cells := 1, slots := 3, locals := 18 } : Room)
abbrev xr15 : Room := ({ frames := 2, cells := 1, slots := 3, locals := 33 } : Room)
abbrev xr16 : Room := ({ frames := 3, cells := 1, slots := 3, locals := 47 } : Room)
abbrev xr17 : Room := ({ frames := 4, cells := 1, slots := 3, locals := 62 } : Room)
abbrev xr18 : Room := ({ frames := 5, cells := 1, slots := 3, locals := 74 } : Room)
abbrev xr19 : Room := ({ frames := 6, cells := 1, slots := 3, locals := 89 } : Room)
abbrev xr20 : Room := ({ frames := 2, cells := 0, slots := 0, locals := 27 } : Room)
abbrev xr21 : Room := ({ frames := 3, cells := 0, slots := 0, locals := 40 } : Room)
abbrev xr22 : Room := ({ frames := 1, cells := 1, slots := 4, locals := 18 } : Room)
abbrev xr23 : Room := ({ frames := 2, cells := 1, slots := 4, locals := 33 } : Room)
abbrev xr24 : Room := ({ frames := 3, cells := 1, slots := 4, locals := 47 } : Room)
abbrev xr25 : Room := ({ frames := 4, cells := 1, slots := 4, locals := 62 } : Room)
abbrev xr26 : Room := ({ frames := 5, cells := 1, slots := 4, locals := 74 } : Room)
abbrev xr27 : Room := ({ frames := 6, cells := 1, slots := 4, locals := 89 } : Room)
abbrev xr28 : Room := ({ frames := 1, cells := 1, slots := 6, locals := 18 } : Room)
abbrev xr29 : Room := ({ frames := 2, cells := 1, slots := 6, locals := 33 } : Room)
abbrev xr30 : Room := ({ frames := 3, cells := 1, slots := 6, locals := 47 } : Room)
abbrev xr31 : Room := ({ frames := 4, cells := 1, slots := 6, locals := 62 } : Room)
abbrev xr32 : Room := ({ frames := 5, cells := 1, slots := 6, locals := 74 } : Room)
abbrev xr33 : Room := ({ frames := 6, cells := 1, slots := 6, locals := 89 } : Room)
abbrev xr34 : Room := ({ frames := 1, cells := 0, slots := 0, locals := 15 } : Room)
abbrev xr35 : Room := ({ frames := 0, cells := 0, slots := 0, locals := 0 } : Room)
abbrev xr36 : Room := ({ frames := 0, cells := 1, slots := 2, locals := 0 } : Room)
abbrev ci0 : Int32 := 0
abbrev cv0 : Value := .int 0
abbrev ci1 : Int32 := 1
abbrev cv1 : Value := .int 1
abbrev ci2 : Int32 := 2
abbrev cv2 : Value := .int 2
abbrev ci3 : Int32 := 3
abbrev cv3 : Value := .int 3
abbrev ci4 : Int32 := 4
abbrev cv4 : Value := .int 4
abbrev ci5 : Int32 := 5
abbrev cv5 : Value := .int 5
abbrev ci6 : Int32 := 6
abbrev cv6 : Value := .int 6
abbrev ci28 : Int32 := 28
abbrev cv28 : Value := .int 28
abbrev ci2147483647 : Int32 := 2147483647
abbrev cv2147483647 : Value := .int 2147483647
abbrev vi (x : Int32) : Slot := .val (.int x)
abbrev vr (a : Addr) : Slot := .val (.ref a)
theorem ef_Enum_ordinal_0 (m : MethodId) (x0 : Addr) : entryFrame m #[(.ref x0)] 1 = mkF m 0 #[vr x0] [] := by first | (simp [entryFrame, mkF, argsToLocals, Value.category]; done) | rfl
def Q_Enum_ordinal_0 (Z : State) (li : Addr) (n12 : Int32) (h0 : Heap) (n0 : Nat) (v : Option Value) (h : Heap) (L : List Loc) : Prop := v = some (.int n12) ∧ Fr n0 L ∧ h = h0
set_option maxRecDepth 65536 in
set_option maxHeartbeats 40000000 in
theorem rm_Enum_ordinal_0 (l : Launch) (Z : State) (a0 : Array Value) (hw : ∀ d ∈ tables_1, d.before a0 Z = true) (ws : List Jvm.Cond) (li : Addr) (n12 : Int32) (h0 : Heap) (n0 : Nat) (Z0 : n0 ≤ h0.size) (F_ordinal_li : Fld Z h0 li xs43 "ordinal" "I" (.int n12)) :
    MetFree l xm7 (head1 (Jvm.Cond.code xm7 jdk_37_method_2_code 1 (some .int) :: ws) xr35) (fun a U => a = #[(.ref li)] ∧ Z.Warmed39 U.vm ∧ U.heap = h0) (fun _ _ _ _ _ => True) (fun _ U o U' => ∃ v L, o = .returned v ∧ Q_Enum_ordinal_0 Z li n12 h0 n0 v U'.heap L ∧ FrameEnd U o U' L xr35.cells xr35.slots) := by
  refine MetFree.of_bodySF (plainFor_of_name pn_0) hisR ?_
  intro p e s m args below meth c s₁ Bd hml0 hP hK
  obtain ⟨rfl, hZ, hh⟩ := hP
  have hx := Bd.exec
  have hby := Bd.bytes
  have hlk : meth.locks = false := BodyLoose.notSynchronized Bd
  have hml : c.maxLocals = 1 := hml0
  have hown : s.vm.findClass xs43 = some m.cls := findClass_of_methodNamed Bd.named
  have hnm := (name_of_methodNamed Bd.named Bd.method).1
  have X0 : Stand p l e xr35 s m #[(.ref li)] below meth c s₁ [] 0 0 := Stand.of_body Bd
  have e0 : s₁.heap = h0 := by rw [← hh, Bd.state]; rfl
  have N0 := Fr.nil n0
  show Go p e below s (Q_Enum_ordinal_0 Z li n12 h0 n0) xr35.cells xr35.slots s₁ (entryFrame m #[(.ref li)] 1)
  refine Go.cast (ef_Enum_ordinal_0 m li) ?_
  show Go p e below s _ _ _ s₁ (mkF m 0 #[vr li] [])
  refine Go.step (fun _ k => XS.aloadN X0.here hx rfl (hb hby d2_0) rfl rfl k) ?_
  show Go p e below s _ _ _ s₁ (mkF m 1 #[vr li] [(.ref li)])
  obtain ⟨T13, X13, e13, st13⟩ := getF X0 hx hZ hown (host := "") (Or.inl (tw73 hw)) Via.refl e0 F_ordinal_li (g := (mkF m 1 #[vr li] [(.ref li)])) rfl rfl (hb hby d2_1)
  refine Go.step (fun _ k => st13 _ k) ?_
  show Go p e below s _ _ _ T13 (mkF m 4 #[vr li] [(.int n12)])
  exact Go.retI X13 hx hlk Bd.returns (hb hby d2_4) e13 ⟨rfl, N0, rfl⟩ (by decide) (by decide)

theorem ef_ImmutableCollections_ListN_get_0 (m : MethodId) (x0 : Addr) (x1 : Int32) : entryFrame m #[(.ref x0), (.int x1)] 2 = mkF m 0 #[vr x0, vi x1] [] := by first | (simp [entryFrame, mkF, argsToLocals, Value.category]; done) | rfl
def Q_ImmutableCollections_ListN_get_0 (Z : State) (al : Addr) (n17 : Int32) (ea : Addr) (kea : ClassId) (n19 : Int32) (els : List Value) (x20 : Addr) (h0 : Heap) (n0 : Nat) (v : Option Value) (h : Heap) (L : List Loc) : Prop := v = some (.ref x20) ∧ Fr n0 L ∧ h = h0
set_option maxRecDepth 65536 in
set_option maxHeartbeats 40000000 in
theorem rm_ImmutableCollections_ListN_get_0 (l : Launch) (Z : State) (a0 : Array Value) (hw : ∀ d ∈ tables_1, d.before a0 Z = true) (ws : List Jvm.Cond) (al : Addr) (n17 : Int32) (ea : Addr) (kea : ClassId) (n19 : Int32) (els : List Value) (x20 : Addr) (h0 : Heap) (n0 : Nat) (Z0 : n0 ≤ h0.size) (F_elements_al : Fld Z h0 al xs22 "elements" xs34 (.ref ea)) (V_ea : Arv Z h0 ea kea (.object xs39) n19 els .null) (pk_23 : (els : List Value).getD (n17).toNatClampNeg .null = .ref x20) (d_24 : ¬ n17 < ci0) (d_25 : n17 < n19) :
    MetFree l xm28 (head1 (Jvm.Cond.code xm28 jdk_45_method_4_code 2 (some (.object xs39)) :: ws) xr35) (fun a U => a = #[(.ref al), (.int n17)] ∧ Z.Warmed39 U.vm ∧ U.heap = h0) (fun _ _ _ _ _ => True) (fun _ U o U' => ∃ v L, o = .returned v ∧ Q_ImmutableCollections_ListN_get_0 Z al n17 ea kea n19 els x20 h0 n0 v U'.heap L ∧ FrameEnd U o U' L xr35.cells xr35.slots) := by
  refine MetFree.of_bodySF (plainFor_of_name pn_1) hisR ?_
  intro p e s m args below meth c s₁ Bd hml0 hP hK
  obtain ⟨rfl, hZ, hh⟩ := hP
  have hx := Bd.exec
  have hby := Bd.bytes
  have hlk : meth.locks = false := BodyLoose.notSynchronized Bd
  have hml : c.maxLocals = 2 := hml0
  have hown : s.vm.findClass xs22 = some m.cls := findClass_of_methodNamed Bd.named
  have hnm := (name_of_methodNamed Bd.named Bd.method).1
  have X0 : Stand p l e xr35 s m #[(.ref al), (.int n17)] below meth c s₁ [] 0 0 := Stand.of_body Bd
  have e0 : s₁.heap = h0 := by rw [← hh, Bd.state]; rfl
  have N0 := Fr.nil n0
  show Go p e below s (Q_ImmutableCollections_ListN_get_0 Z al n17 ea kea n19 els x20 h0 n0) xr35.cells xr35.slots s₁ (entryFrame m #[(.ref al), (.int n17)] 2)
  refine Go.cast (ef_ImmutableCollections_ListN_get_0 m al n17) ?_
  show Go p e below s _ _ _ s₁ (mkF m 0 #[vr al, vi n17] [])
  refine Go.step (fun _ k => XS.aloadN X0.here hx rfl (hb hby d3_0) rfl rfl k) ?_
  show Go p e below s _ _ _ s₁ (mkF m 1 #[vr al, vi n17] [(.ref al)])
  obtain ⟨T18, X18, e18, st18⟩ := getF X0 hx hZ hown (host := "") (Or.inl (tw85 hw)) Via.refl e0 F_elements_al (g := (mkF m 1 #[vr al, vi n17] [(.ref al)])) rfl rfl (hb hby d3_1)
  refine Go.step (fun _ k => st18 _ (XS.iloadN X18.here hx rfl (hb hby d3_4) rfl k)) ?_
  show Go p e below s _ _ _ T18 (mkF m 5 #[vr al, vi n17] [(.int n17), (.ref ea)])
  obtain ⟨cl26, Ar26, -, Sz26, Ng26, Hs26, Ft26⟩ := id V_ea
  have in26 : ¬ (n17 < 0 ∨ cl26.slots.size ≤ (n17).toNatClampNeg) := inb_of Sz26 ⟨d_24, d_25⟩
  have at26 : cl26.slots[(n17).toNatClampNeg]? = some (.ref x20) := Hs26.at in26 pk_23
  refine Go.step (fun _ k => X18.aaload hx (j := n17) (v := (.ref x20)) (by rw [e18]; exact Ar26.1) (State.isArrayOf_alike hZ.alike Ar26.2.1) rfl Ar26.2.2 in26 at26 (g := (mkF m 5 #[vr al, vi n17] [(.int n17), (.ref ea)])) rfl rfl (hb hby d3_5) _ k) ?_
  show Go p e below s _ _ _ T18 (mkF m 6 #[vr al, vi n17] [(.ref x20)])
  exact Go.retA X18 hx hlk Bd.returns rfl rfl (hb hby d3_6) e18 ⟨rfl, N0, rfl⟩ (by decide) (by decide)

theorem ef_Good_of_0 (m : MethodId) (x0 : Addr) (x1 : Int32) : entryFrame m #[(.ref x0), (.int x1)] 2 = mkF m 0 #[vr x0, vi x1] [] := by first | (simp [entryFrame, mkF, argsToLocals, Value.category]; done) | rfl
def Q_Good_of_0 (Z : State) (li : Addr) (dn : Int32) (n8 : Int32) (n12 : Int32) (al : Addr) (ea : Addr) (kea : ClassId) (n19 : Int32) (els : List Value) (x21 : Addr) (h0 : Heap) (n0 : Nat) (v : Option Value) (h : Heap) (L : List Loc) : Prop := v = some (.ref x21) ∧ Fr n0 L ∧ h = h0
set_option maxRecDepth 65536 in
set_option maxHeartbeats 40000000 in
theorem rm_Good_of_0 (l : Launch) (Z : State) (a0 : Array Value) (hw : ∀ d ∈ tables_1, d.before a0 Z = true) (ws : List Jvm.Cond) (li : Addr) (dn : Int32) (n8 : Int32) (n12 : Int32) (al : Addr) (ea : Addr) (kea : ClassId) (n19 : Int32) (els : List Value) (x21 : Addr) (h0 : Heap) (n0 : Nat) (Z0 : n0 ≤ h0.size) (F_first_li : Fld Z h0 li xs11 "first" "I" (.int n8)) (hq0 : ¬ dn < n8) (hq1 : dn < (n8 + ci4)) (Z_S_ALL : Sta Z Z.heap xs17 "ALL" xs40 (.ref al)) (O0 : Old Z n0 h0) (E_li : Exa Z h0 li xs11) (F_ordinal_li : Fld Z h0 li xs43 "ordinal" "I" (.int n12)) (E_al : Exa Z h0 al xs22) (F_elements_al : Fld Z h0 al xs22 "elements" xs34 (.ref ea)) (V_ea : Arv Z h0 ea kea (.object xs39) n19 els .null) (pk_22 : (els : List Value).getD ((((n12 * ci4) + dn) - n8)).toNatClampNeg .null = .ref x21) (d_27 : ¬ (((n12 * ci4) + dn) - n8) < ci0) (d_28 : (((n12 * ci4) + dn) - n8) < n19) (E_x21 : Exa Z h0 x21 xs17) :
    MetFree l xm36 (head1 (Jvm.Cond.code xm36 prog_50_method_6_code 2 (some (.object xs17)) :: ws) xr4) (fun a U => a = #[(.ref li), (.int dn)] ∧ Z.Warmed39 U.vm ∧ U.heap = h0) (fun _ _ _ _ _ => True) (fun _ U o U' => ∃ v L, o = .returned v ∧ Q_Good_of_0 Z li dn n8 n12 al ea kea n19 els x21 h0 n0 v U'.heap L ∧ FrameEnd U o U' L xr4.cells xr4.slots) := by
  refine MetFree.of_bodySF (plainFor_of_name pn_2) hisR ?_
  intro p e s m args below meth c s₁ Bd hml0 hP hK
  obtain ⟨rfl, hZ, hh⟩ := hP
  have hx := Bd.exec
  have hby := Bd.bytes
  have hlk : meth.locks = false := BodyLoose.notSynchronized Bd
  have hml : c.maxLocals = 2 := hml0
  have hown : s.vm.findClass xs17 = some m.cls := findClass_of_methodNamed Bd.named
  have hnm := (name_of_methodNamed Bd.named Bd.method).1
  have X0 : Stand p l e xr4 s m #[(.ref li), (.int dn)] below meth c s₁ [] 0 0 := Stand.of_body Bd
  have e0 : s₁.heap = h0 := by rw [← hh, Bd.state]; rfl
  have N0 := Fr.nil n0
  show Go p e below s (Q_Good_of_0 Z li dn n8 n12 al ea kea n19 els x21 h0 n0) xr4.cells xr4.slots s₁ (entryFrame m #[(.ref li), (.int dn)] 2)
  refine Go.cast (ef_Good_of_0 m li dn) ?_
  show Go p e below s _ _ _ s₁ (mkF m 0 #[vr li, vi dn] [])
  refine Go.step (fun _ k => XS.iloadN X0.here hx rfl (hb hby d1_0) rfl (XS.aloadN X0.here hx rfl (hb hby d1_1) rfl rfl k)) ?_
  show Go p e below s _ _ _ s₁ (mkF m 2 #[vr li, vi dn] [(.ref li), (.int dn)])
  obtain ⟨T9, X9, e9, st9⟩ := own_getR X0 hx hZ hown (tw62 hw) e0 F_first_li (g := (mkF m 2 #[vr li, vi dn] [(.ref li), (.int dn)])) rfl rfl (hb hby d1_2)
  refine Go.step (fun _ k => st9 _ (XS.icmpNo X9.here hx rfl (hb hby d1_5) rfl (flt hq0).1 (XS.iloadN X9.here hx rfl (hb hby d1_8) rfl (XS.aloadN X9.here hx rfl (hb hby d1_9) rfl rfl k)))) ?_
  show Go p e below s _ _ _ T9 (mkF m 10 #[vr li, vi dn] [(.ref li), (.int dn)])
  obtain ⟨T10, X10, e10, st10⟩ := own_getR X9 hx hZ hown (tw62 hw) e9 F_first_li (g := (mkF m 10 #[vr li, vi dn] [(.ref li), (.int dn)])) rfl rfl (hb hby d1_10)
  refine Go.step (fun _ k => st10 _ (XS.iconst X10.here hx rfl (hb hby d1_13) (XS.iadd X10.here hx rfl (hb hby d1_14) rfl (XS.icmpYes X10.here hx rfl (pc0 := 15) (pc' := 48) rfl (hb hby d1_15) rfl (tlt hq1).1 (by decide) (by decide) k)))) ?_
  show Go p e below s _ _ _ T10 (mkF m 48 #[vr li, vi dn] [])
  obtain ⟨T11, X11, e11, st11⟩ := getS2 X10 hx hZ hown (host := "") (Or.inl (tw64 hw)) Via.refl e10 (Z_S_ALL.ext O0.2) (g := (mkF m 48 #[vr li, vi dn] [])) rfl (hb hby d1_48)
  refine Go.step (fun _ k => st11 _ (XS.aloadN X11.here hx rfl (hb hby d1_51) rfl rfl k)) ?_
  show Go p e below s _ _ _ T11 (mkF m 52 #[vr li, vi dn] [(.ref li), (.ref al)])
  obtain ⟨cq14, kq14, q14a, q14b, q14c⟩ := isOf hZ e11 E_li
  obtain ⟨_, _, ⟨T14, L14, k14, n14⟩, -, X14, ⟨Lc14, hQ14, l14, y14, z14⟩, st14⟩ := X11.virtualBackUp hx (owner := xs43) (x := xm8) (y := xm7) hown (mvT hZ (tw66 hw)) (mvT hZ (tw67 hw)) (mvT hZ (tw68 hw)) (by decide) (mvT hZ (tw70 hw)) (mvT hZ (tw69 hw)) (backOf (W := 1) (rm_Enum_ordinal_0 l Z a0 hw [] li n12 h0 n0 Z0 F_ordinal_li) hZ (tw72 hw) (tw71 hw) (by decide) (by decide)) q14a q14c (g := (mkF m 52 #[vr li, vi dn] [(.ref li), (.ref al)])) rfl (by rw [hml]; rfl) (Steps.refl _) (argsL := []) (rest := [(.ref al)]) (lenOf pd_0 rfl) rfl (Nat.le_of_eq rfl) (hb hby d1_52) (fun _ _ => ⟨rfl, e11, (by decide : 0 + 0 ≤ _), (by decide : 0 + 0 ≤ _)⟩)
  dsimp only [Pt.U, Pt.locs, Pt.cells, Pt.slots] at X14 l14 y14 z14 st14 hQ14
  subst l14 y14 z14
  obtain ⟨rfl, N14q, eq14⟩ := hQ14
  have N15 := Fr.app N0 N14q
  refine Go.step (fun _ k => st14.trans (XS.iconst X14.here hx rfl (hb hby d1_55) (XS.imul X14.here hx rfl (hb hby d1_56) rfl (XS.iloadN X14.here hx rfl (hb hby d1_57) rfl (XS.iadd X14.here hx rfl (hb hby d1_58) rfl (XS.aloadN X14.here hx rfl (hb hby d1_59) rfl rfl k)))))) ?_
  show Go p e below s _ _ _ T14 (mkF m 60 #[vr li, vi dn] [(.ref li), (.int ((n12 * ci4) + dn)), (.ref al)])
  obtain ⟨T16, X16, e16, st16⟩ := own_getR X14 hx hZ hown (tw62 hw) eq14 F_first_li (g := (mkF m 60 #[vr li, vi dn] [(.ref li), (.int ((n12 * ci4) + dn)), (.ref al)])) rfl rfl (hb hby d1_60)
  refine Go.step (fun _ k => st16 _ (XS.isub X16.here hx rfl (hb hby d1_63) rfl k)) ?_
  show Go p e below s _ _ _ T16 (mkF m 64 #[vr li, vi dn] [(.int (((n12 * ci4) + dn) - n8)), (.ref al)])
  obtain ⟨cq29, kq29, q29a, q29b, q29c⟩ := isOf hZ e16 E_al
  obtain ⟨_, _, ⟨T29, L29, k29, n29⟩, -, X29, ⟨Lc29, hQ29, l29, y29, z29⟩, st29⟩ := X16.interfaceBack hx (xi := xm29) (y := xm28) hown (mvT hZ (tw75 hw)) (mvT hZ (tw76 hw)) (mvT hZ (tw77 hw)) (mvT hZ (tw78 hw)) (mvT hZ (tw79 hw)) (mvT hZ (tw80 hw)) (mvT hZ (tw81 hw)) (mvT hZ (tw82 hw)) (by decide) (backOf (W := 0) (rm_ImmutableCollections_ListN_get_0 l Z a0 hw [] al (((n12 * ci4) + dn) - n8) ea kea n19 els x21 h0 n0 Z0 F_elements_al V_ea pk_22 d_27 d_28) hZ (tw84 hw) (tw83 hw) (by decide) (by decide)) q29a q29b q29c (g := (mkF m 64 #[vr li, vi dn] [(.int (((n12 * ci4) + dn) - n8)), (.ref al)])) rfl (by rw [hml]; rfl) (Steps.refl _) (argsL := [(.int (((n12 * ci4) + dn) - n8))]) (rest := []) (lenOf pd_1 rfl) rfl (Nat.le_of_eq rfl) (hb hby d1_64) (fun _ _ => ⟨rfl, e16, (by decide : 0 + 0 ≤ _), (by decide : 0 + 0 ≤ _)⟩)
  dsimp only [Pt.U, Pt.locs, Pt.cells, Pt.slots] at X29 l29 y29 z29 st29 hQ29
  subst l29 y29 z29
  obtain ⟨rfl, N29q, eq29⟩ := hQ29
  have N30 := Fr.app N15 N29q
  refine Go.step (fun _ k => st29.trans k) ?_
  show Go p e below s _ _ _ T29 (mkF m 69 #[vr li, vi dn] [(.ref x21)])
  obtain ⟨T31, X31, e31, st31⟩ := castY X29 hx hZ hown (tw87 hw) eq29 (Ins.self E_x21) (g := (mkF m 69 #[vr li, vi dn] [(.ref x21)])) rfl rfl (hb hby d1_69)
  refine Go.step (fun _ k => st31 _ k) ?_
  show Go p e below s _ _ _ T31 (mkF m 72 #[vr li, vi dn] [(.ref x21)])
  exact Go.retA X31 hx hlk Bd.returns rfl rfl (hb hby d1_72) e31 ⟨rfl, N30, rfl⟩ (by decide) (by decide)

theorem ef_inflight (m : MethodId) (x0 : Int32) : entryFrame m #[(.int x0)] 1 = mkF m 0 #[vi x0] [] := by first | (simp [entryFrame, mkF, argsToLocals, Value.category]; done) | rfl
def Q_inflight (Z : State) (dn : Int32) (xf : Addr) (li : Addr) (al : Addr) (ea : Addr) (kea : ClassId) (els : List Value) (h0 : Heap) (n0 : Nat) (v : Option Value) (h : Heap) (L : List Loc) : Prop := v = some (.ref xf) ∧ Fr n0 L ∧ h = h0
set_option maxRecDepth 65536 in
set_option maxHeartbeats 40000000 in
theorem rm_inflight (l : Launch) (Z : State) (a0 : Array Value) (hw : ∀ d ∈ tables_1, d.before a0 Z = true) (ws : List Jvm.Cond) (dn : Int32) (xf : Addr) (li : Addr) (al : Addr) (ea : Addr) (kea : ClassId) (els : List Value) (h0 : Heap) (n0 : Nat) (Z0 : n0 ≤ h0.size) (O0 : Old Z n0 h0) (Z_S_INFLIGHT : Sta Z Z.heap xs11 "INFLIGHT" xs10 (.ref li)) (Z_E_li : Exa Z Z.heap li xs11) (Z_F_first_li : Fld Z Z.heap li xs11 "first" "I" cv1) (Z_F_ordinal_li : Fld Z Z.heap li xs43 "ordinal" "I" cv0) (Z_S_ALL : Sta Z Z.heap xs17 "ALL" xs40 (.ref al)) (Z_E_al : Exa Z Z.heap al xs22) (Z_F_elements_al : Fld Z Z.heap al xs22 "elements" xs34 (.ref ea)) (Z_A_ea : Arv Z Z.heap ea kea (.object xs39) ci28 els .null) (E_xf : Exa Z h0 xf xs17) (hI : own_I dn) (hpk : (els : List Value).getD ((((ci0 * ci4) + dn) - ci1)).toNatClampNeg .null = .ref xf) :
    MetFree l xm9 (head1 (Jvm.Cond.code xm9 prog_50_method_2_code 1 (some (.object xs17)) :: ws) xr5) (fun a U => a = #[(.int dn)] ∧ Z.Warmed39 U.vm ∧ U.heap = h0) (fun _ _ _ _ _ => True) (fun _ U o U' => ∃ v L, o = .returned v ∧ Q_inflight Z dn xf li al ea kea els h0 n0 v U'.heap L ∧ FrameEnd U o U' L xr5.cells xr5.slots) := by
  refine MetFree.of_bodySF (plainFor_of_name pn_2) hisR ?_
  intro p e s m args below meth c s₁ Bd hml0 hP hK
  obtain ⟨rfl, hZ, hh⟩ := hP
  have hx := Bd.exec
  have hby := Bd.bytes
  have hlk : meth.locks = false := BodyLoose.notSynchronized Bd
  have hml : c.maxLocals = 1 := hml0
  have hown : s.vm.findClass xs17 = some m.cls := findClass_of_methodNamed Bd.named
  have hnm := (name_of_methodNamed Bd.named Bd.method).1
  have X0 : Stand p l e xr5 s m #[(.int dn)] below meth c s₁ [] 0 0 := Stand.of_body Bd
  have e0 : s₁.heap = h0 := by rw [← hh, Bd.state]; rfl
  have N0 := Fr.nil n0
  show Go p e below s (Q_inflight Z dn xf li al ea kea els h0 n0) xr5.cells xr5.slots s₁ (entryFrame m #[(.int dn)] 1)
  refine Go.cast (ef_inflight m dn) ?_
  show Go p e below s _ _ _ s₁ (mkF m 0 #[vi dn] [])
  have f1 := Z_E_li.ext O0.2
  have f2 := Z_F_first_li.ext O0.2
  have f3 := Z_F_ordinal_li.ext O0.2
  have f4 := Z_E_al.ext O0.2
  have f5 := Z_F_elements_al.ext O0.2
  have f6 := Z_A_ea.ext O0.2
  have hq0 : ¬ dn < ci1 := by rcases hI with rfl | rfl | rfl | rfl <;> decide
  have hq1 : dn < (ci1 + ci4) := by rcases hI with rfl | rfl | rfl | rfl <;> decide
  have hq2 : ¬ (((ci0 * ci4) + dn) - ci1) < ci0 := by rcases hI with rfl | rfl | rfl | rfl <;> decide
  have hq3 : (((ci0 * ci4) + dn) - ci1) < ci28 := by rcases hI with rfl | rfl | rfl | rfl <;> decide
  obtain ⟨T7, X7, e7, st7⟩ := getS2 X0 hx hZ hown (host := "") (Or.inl (tw56 hw)) Via.refl e0 (Z_S_INFLIGHT.ext O0.2) (g := (mkF m 0 #[vi dn] [])) rfl (hb hby d0_0)
  refine Go.step (fun _ k => st7 _ (XS.iloadN X7.here hx rfl (hb hby d0_3) rfl k)) ?_
  show Go p e below s _ _ _ T7 (mkF m 4 #[vi dn] [(.int dn), (.ref li)])
  obtain ⟨_, _, ⟨T32, L32, k32, n32⟩, -, X32, ⟨Lc32, hQ32, l32, y32, z32⟩, st32⟩ := Jvm.LawKit.callS X7 hx (y := xm36) hown (mvT hZ (tw59 hw)) (mvT hZ (tw60 hw)) (mvT hZ (tw54 hw)) (mvT hZ (tw61 hw)) (by decide) (backOf (W := 0) (rm_Good_of_0 l Z a0 hw [] li dn ci1 ci0 al ea kea ci28 els xf h0 n0 Z0 f2 hq0 hq1 Z_S_ALL O0 f1 f3 f4 f5 f6 hpk hq2 hq3 E_xf) hZ (tw61 hw) (tw54 hw) (by decide) (by decide)) (g := (mkF m 4 #[vi dn] [(.int dn), (.ref li)])) rfl (by rw [hml]; rfl) (argsL := [(.ref li), (.int dn)]) (rest := []) (lenOf pd_2 rfl) rfl (Nat.le_of_eq rfl) (hb hby d0_4) (fun _ _ => ⟨rfl, e7, (by decide : 0 + 0 ≤ _), (by decide : 0 + 0 ≤ _)⟩)
  dsimp only [Pt.U, Pt.locs, Pt.cells, Pt.slots] at X32 l32 y32 z32 st32 hQ32
  subst l32 y32 z32
  obtain ⟨rfl, N32q, eq32⟩ := hQ32
  have N33 := Fr.app N0 N32q
  refine Go.step (fun _ k => st32 _ k) ?_
  show Go p e below s _ _ _ T32 (mkF m 7 #[vi dn] [(.ref xf)])
  exact Go.retA X32 hx hlk Bd.returns rfl rfl (hb hby d0_7) eq32 ⟨rfl, N33, rfl⟩ (by decide) (by decide)

theorem ef_Good_of_1 (m : MethodId) (x0 : Addr) (x1 : Int32) : entryFrame m #[(.ref x0), (.int x1)] 2 = mkF m 0 #[vr x0, vi x1] [] := by first | (simp [entryFrame, mkF, argsToLocals, Value.category]; done) | rfl
def Q_Good_of_1 (Z : State) (lo : Addr) (dn : Int32) (n41 : Int32) (n45 : Int32) (al : Addr) (ea : Addr) (kea : ClassId) (n49 : Int32) (els : List Value) (x50 : Addr) (h0 : Heap) (n0 : Nat) (v : Option Value) (h : Heap) (L : List Loc) : Prop := v = some (.ref x50) ∧ Fr n0 L ∧ h = h0
set_option maxRecDepth 65536 in
set_option maxHeartbeats 40000000 in
theorem rm_Good_of_1 (l : Launch) (Z : State) (a0 : Array Value) (hw : ∀ d ∈ tables_1, d.before a0 Z = true) (ws : List Jvm.Cond) (lo : Addr) (dn : Int32) (n41 : Int32) (n45 : Int32) (al : Addr) (ea : Addr) (kea : ClassId) (n49 : Int32) (els : List Value) (x50 : Addr) (h0 : Heap) (n0 : Nat) (Z0 : n0 ≤ h0.size) (F_first_lo : Fld Z h0 lo xs11 "first" "I" (.int n41)) (hq0 : ¬ dn < n41) (hq1 : dn < (n41 + ci4)) (Z_S_ALL : Sta Z Z.heap xs17 "ALL" xs40 (.ref al)) (O0 : Old Z n0 h0) (E_lo : Exa Z h0 lo xs11) (F_ordinal_lo : Fld Z h0 lo xs43 "ordinal" "I" (.int n45)) (E_al : Exa Z h0 al xs22) (F_elements_al : Fld Z h0 al xs22 "elements" xs34 (.ref ea)) (V_ea : Arv Z h0 ea kea (.object xs39) n49 els .null) (pk_51 : (els : List Value).getD ((((n45 * ci4) + dn) - n41)).toNatClampNeg .null = .ref x50) (d_52 : ¬ (((n45 * ci4) + dn) - n41) < ci0) (d_53 : (((n45 * ci4) + dn) - n41) < n49) (E_x50 : Exa Z h0 x50 xs17) :
    MetFree l xm36 (head1 (Jvm.Cond.code xm36 prog_50_method_6_code 2 (some (.object xs17)) :: ws) xr4) (fun a U => a = #[(.ref lo), (.int dn)] ∧ Z.Warmed39 U.vm ∧ U.heap = h0) (fun _ _ _ _ _ => True) (fun _ U o U' => ∃ v L, o = .returned v ∧ Q_Good_of_1 Z lo dn n41 n45 al ea kea n49 els x50 h0 n0 v U'.heap L ∧ FrameEnd U o U' L xr4.cells xr4.slots) := by
  refine MetFree.of_bodySF (plainFor_of_name pn_2) hisR ?_
  intro p e s m args below meth c s₁ Bd hml0 hP hK
  obtain ⟨rfl, hZ, hh⟩ := hP
  have hx := Bd.exec
  have hby := Bd.bytes
  have hlk : meth.locks = false := BodyLoose.notSynchronized Bd
  have hml : c.maxLocals = 2 := hml0
  have hown : s.vm.findClass xs17 = some m.cls := findClass_of_methodNamed Bd.named
  have hnm := (name_of_methodNamed Bd.named Bd.method).1
  have X0 : Stand p l e xr4 s m #[(.ref lo), (.int dn)] below meth c s₁ [] 0 0 := Stand.of_body Bd
  have e0 : s₁.heap = h0 := by rw [← hh, Bd.state]; rfl
  have N0 := Fr.nil n0
  show Go p e below s (Q_Good_of_1 Z lo dn n41 n45 al ea kea n49 els x50 h0 n0) xr4.cells xr4.slots s₁ (entryFrame m #[(.ref lo), (.int dn)] 2)
  refine Go.cast (ef_Good_of_1 m lo dn) ?_
  show Go p e below s _ _ _ s₁ (mkF m 0 #[vr lo, vi dn] [])
  refine Go.step (fun _ k => XS.iloadN X0.here hx rfl (hb hby d1_0) rfl (XS.aloadN X0.here hx rfl (hb hby d1_1) rfl rfl k)) ?_
  show Go p e below s _ _ _ s₁ (mkF m 2 #[vr lo, vi dn] [(.ref lo), (.int dn)])
  obtain ⟨T42, X42, e42, st42⟩ := own_getR X0 hx hZ hown (tw62 hw) e0 F_first_lo (g := (mkF m 2 #[vr lo, vi dn] [(.ref lo), (.int dn)])) rfl rfl (hb hby d1_2)
  refine Go.step (fun _ k => st42 _ (XS.icmpNo X42.here hx rfl (hb hby d1_5) rfl (flt hq0).1 (XS.iloadN X42.here hx rfl (hb hby d1_8) rfl (XS.aloadN X42.here hx rfl (hb hby d1_9) rfl rfl k)))) ?_
  show Go p e below s _ _ _ T42 (mkF m 10 #[vr lo, vi dn] [(.ref lo), (.int dn)])
  obtain ⟨T43, X43, e43, st43⟩ := own_getR X42 hx hZ hown (tw62 hw) e42 F_first_lo (g := (mkF m 10 #[vr lo, vi dn] [(.ref lo), (.int dn)])) rfl rfl (hb hby d1_10)
  refine Go.step (fun _ k => st43 _ (XS.iconst X43.here hx rfl (hb hby d1_13) (XS.iadd X43.here hx rfl (hb hby d1_14) rfl (XS.icmpYes X43.here hx rfl (pc0 := 15) (pc' := 48) rfl (hb hby d1_15) rfl (tlt hq1).1 (by decide) (by decide) k)))) ?_
  show Go p e below s _ _ _ T43 (mkF m 48 #[vr lo, vi dn] [])
  obtain ⟨T44, X44, e44, st44⟩ := getS2 X43 hx hZ hown (host := "") (Or.inl (tw64 hw)) Via.refl e43 (Z_S_ALL.ext O0.2) (g := (mkF m 48 #[vr lo, vi dn] [])) rfl (hb hby d1_48)
  refine Go.step (fun _ k => st44 _ (XS.aloadN X44.here hx rfl (hb hby d1_51) rfl rfl k)) ?_
  show Go p e below s _ _ _ T44 (mkF m 52 #[vr lo, vi dn] [(.ref lo), (.ref al)])
  obtain ⟨cq46, kq46, q46a, q46b, q46c⟩ := isOf hZ e44 E_lo
  obtain ⟨_, _, ⟨T46, L46, k46, n46⟩, -, X46, ⟨Lc46, hQ46, l46, y46, z46⟩, st46⟩ := X44.virtualBackUp hx (owner := xs43) (x := xm8) (y := xm7) hown (mvT hZ (tw66 hw)) (mvT hZ (tw67 hw)) (mvT hZ (tw68 hw)) (by decide) (mvT hZ (tw70 hw)) (mvT hZ (tw69 hw)) (backOf (W := 1) (rm_Enum_ordinal_0 l Z a0 hw [] lo n45 h0 n0 Z0 F_ordinal_lo) hZ (tw72 hw) (tw71 hw) (by decide) (by decide)) q46a q46c (g := (mkF m 52 #[vr lo, vi dn] [(.ref lo), (.ref al)])) rfl (by rw [hml]; rfl) (Steps.refl _) (argsL := []) (rest := [(.ref al)]) (lenOf pd_0 rfl) rfl (Nat.le_of_eq rfl) (hb hby d1_52) (fun _ _ => ⟨rfl, e44, (by decide : 0 + 0 ≤ _), (by decide : 0 + 0 ≤ _)⟩)
  dsimp only [Pt.U, Pt.locs, Pt.cells, Pt.slots] at X46 l46 y46 z46 st46 hQ46
  subst l46 y46 z46
  obtain ⟨rfl, N46q, eq46⟩ := hQ46
  have N47 := Fr.app N0 N46q
  refine Go.step (fun _ k => st46.trans (XS.iconst X46.here hx rfl (hb hby d1_55) (XS.imul X46.here hx rfl (hb hby d1_56) rfl (XS.iloadN X46.here hx rfl (hb hby d1_57) rfl (XS.iadd X46.here hx rfl (hb hby d1_58) rfl (XS.aloadN X46.here hx rfl (hb hby d1_59) rfl rfl k)))))) ?_
  show Go p e below s _ _ _ T46 (mkF m 60 #[vr lo, vi dn] [(.ref lo), (.int ((n45 * ci4) + dn)), (.ref al)])
  obtain ⟨T48, X48, e48, st48⟩ := own_getR X46 hx hZ hown (tw62 hw) eq46 F_first_lo (g := (mkF m 60 #[vr lo, vi dn] [(.ref lo), (.int ((n45 * ci4) + dn)), (.ref al)])) rfl rfl (hb hby d1_60)
  refine Go.step (fun _ k => st48 _ (XS.isub X48.here hx rfl (hb hby d1_63) rfl k)) ?_
  show Go p e below s _ _ _ T48 (mkF m 64 #[vr lo, vi dn] [(.int (((n45 * ci4) + dn) - n41)), (.ref al)])
  obtain ⟨cq54, kq54, q54a, q54b, q54c⟩ := isOf hZ e48 E_al
  obtain ⟨_, _, ⟨T54, L54, k54, n54⟩, -, X54, ⟨Lc54, hQ54, l54, y54, z54⟩, st54⟩ := X48.interfaceBack hx (xi := xm29) (y := xm28) hown (mvT hZ (tw75 hw)) (mvT hZ (tw76 hw)) (mvT hZ (tw77 hw)) (mvT hZ (tw78 hw)) (mvT hZ (tw79 hw)) (mvT hZ (tw80 hw)) (mvT hZ (tw81 hw)) (mvT hZ (tw82 hw)) (by decide) (backOf (W := 0) (rm_ImmutableCollections_ListN_get_0 l Z a0 hw [] al (((n45 * ci4) + dn) - n41) ea kea n49 els x50 h0 n0 Z0 F_elements_al V_ea pk_51 d_52 d_53) hZ (tw84 hw) (tw83 hw) (by decide) (by decide)) q54a q54b q54c (g := (mkF m 64 #[vr lo, vi dn] [(.int (((n45 * ci4) + dn) - n41)), (.ref al)])) rfl (by rw [hml]; rfl) (Steps.refl _) (argsL := [(.int (((n45 * ci4) + dn) - n41))]) (rest := []) (lenOf pd_1 rfl) rfl (Nat.le_of_eq rfl) (hb hby d1_64) (fun _ _ => ⟨rfl, e48, (by decide : 0 + 0 ≤ _), (by decide : 0 + 0 ≤ _)⟩)
  dsimp only [Pt.U, Pt.locs, Pt.cells, Pt.slots] at X54 l54 y54 z54 st54 hQ54
  subst l54 y54 z54
  obtain ⟨rfl, N54q, eq54⟩ := hQ54
  have N55 := Fr.app N47 N54q
  refine Go.step (fun _ k => st54.trans k) ?_
  show Go p e below s _ _ _ T54 (mkF m 69 #[vr lo, vi dn] [(.ref x50)])
  obtain ⟨T56, X56, e56, st56⟩ := castY X54 hx hZ hown (tw87 hw) eq54 (Ins.self E_x50) (g := (mkF m 69 #[vr lo, vi dn] [(.ref x50)])) rfl rfl (hb hby d1_69)
  refine Go.step (fun _ k => st56 _ k) ?_
  show Go p e below s _ _ _ T56 (mkF m 72 #[vr lo, vi dn] [(.ref x50)])
  exact Go.retA X56 hx hlk Bd.returns rfl rfl (hb hby d1_72) e56 ⟨rfl, N55, rfl⟩ (by decide) (by decide)

theorem ef_outflight (m : MethodId) (x0 : Int32) : entryFrame m #[(.int x0)] 1 = mkF m 0 #[vi x0] [] := by first | (simp [entryFrame, mkF, argsToLocals, Value.category]; done) | rfl
def Q_outflight (Z : State) (dn : Int32) (xf : Addr) (lo : Addr) (al : Addr) (ea : Addr) (kea : ClassId) (els : List Value) (h0 : Heap) (n0 : Nat) (v : Option Value) (h : Heap) (L : List Loc) : Prop := v = some (.ref xf) ∧ Fr n0 L ∧ h = h0
set_option maxRecDepth 65536 in
set_option maxHeartbeats 40000000 in
theorem rm_outflight (l : Launch) (Z : State) (a0 : Array Value) (hw : ∀ d ∈ tables_1, d.before a0 Z = true) (ws : List Jvm.Cond) (dn : Int32) (xf : Addr) (lo : Addr) (al : Addr) (ea : Addr) (kea : ClassId) (els : List Value) (h0 : Heap) (n0 : Nat) (Z0 : n0 ≤ h0.size) (O0 : Old Z n0 h0) (Z_S_OUTFLIGHT : Sta Z Z.heap xs11 "OUTFLIGHT" xs10 (.ref lo)) (Z_E_lo : Exa Z Z.heap lo xs11) (Z_F_first_lo : Fld Z Z.heap lo xs11 "first" "I" cv2) (Z_F_ordinal_lo : Fld Z Z.heap lo xs43 "ordinal" "I" cv1) (Z_S_ALL : Sta Z Z.heap xs17 "ALL" xs40 (.ref al)) (Z_E_al : Exa Z Z.heap al xs22) (Z_F_elements_al : Fld Z Z.heap al xs22 "elements" xs34 (.ref ea)) (Z_A_ea : Arv Z Z.heap ea kea (.object xs39) ci28 els .null) (E_xf : Exa Z h0 xf xs17) (hI : own_O dn) (hpk : (els : List Value).getD ((((ci1 * ci4) + dn) - ci2)).toNatClampNeg .null = .ref xf) :
    MetFree l xm6 (head1 (Jvm.Cond.code xm6 prog_50_method_3_code 1 (some (.object xs17)) :: ws) xr5) (fun a U => a = #[(.int dn)] ∧ Z.Warmed39 U.vm ∧ U.heap = h0) (fun _ _ _ _ _ => True) (fun _ U o U' => ∃ v L, o = .returned v ∧ Q_outflight Z dn xf lo al ea kea els h0 n0 v U'.heap L ∧ FrameEnd U o U' L xr5.cells xr5.slots) := by
  refine MetFree.of_bodySF (plainFor_of_name pn_2) hisR ?_
  intro p e s m args below meth c s₁ Bd hml0 hP hK
  obtain ⟨rfl, hZ, hh⟩ := hP
  have hx := Bd.exec
  have hby := Bd.bytes
  have hlk : meth.locks = false := BodyLoose.notSynchronized Bd
  have hml : c.maxLocals = 1 := hml0
  have hown : s.vm.findClass xs17 = some m.cls := findClass_of_methodNamed Bd.named
  have hnm := (name_of_methodNamed Bd.named Bd.method).1
  have X0 : Stand p l e xr5 s m #[(.int dn)] below meth c s₁ [] 0 0 := Stand.of_body Bd
  have e0 : s₁.heap = h0 := by rw [← hh, Bd.state]; rfl
  have N0 := Fr.nil n0
  show Go p e below s (Q_outflight Z dn xf lo al ea kea els h0 n0) xr5.cells xr5.slots s₁ (entryFrame m #[(.int dn)] 1)
  refine Go.cast (ef_outflight m dn) ?_
  show Go p e below s _ _ _ s₁ (mkF m 0 #[vi dn] [])
  have f34 := Z_E_lo.ext O0.2
  have f35 := Z_F_first_lo.ext O0.2
  have f36 := Z_F_ordinal_lo.ext O0.2
  have f37 := Z_E_al.ext O0.2
  have f38 := Z_F_elements_al.ext O0.2
  have f39 := Z_A_ea.ext O0.2
  have hq0 : ¬ dn < ci2 := by rcases hI with rfl | rfl | rfl | rfl <;> decide
  have hq1 : dn < (ci2 + ci4) := by rcases hI with rfl | rfl | rfl | rfl <;> decide
  have hq2 : ¬ (((ci1 * ci4) + dn) - ci2) < ci0 := by rcases hI with rfl | rfl | rfl | rfl <;> decide
  have hq3 : (((ci1 * ci4) + dn) - ci2) < ci28 := by rcases hI with rfl | rfl | rfl | rfl <;> decide
  obtain ⟨T40, X40, e40, st40⟩ := getS2 X0 hx hZ hown (host := "") (Or.inl (tw92 hw)) Via.refl e0 (Z_S_OUTFLIGHT.ext O0.2) (g := (mkF m 0 #[vi dn] [])) rfl (hb hby d4_0)
  refine Go.step (fun _ k => st40 _ (XS.iloadN X40.here hx rfl (hb hby d4_3) rfl k)) ?_
  show Go p e below s _ _ _ T40 (mkF m 4 #[vi dn] [(.int dn), (.ref lo)])
  obtain ⟨_, _, ⟨T57, L57, k57, n57⟩, -, X57, ⟨Lc57, hQ57, l57, y57, z57⟩, st57⟩ := Jvm.LawKit.callS X40 hx (y := xm36) hown (mvT hZ (tw59 hw)) (mvT hZ (tw60 hw)) (mvT hZ (tw54 hw)) (mvT hZ (tw61 hw)) (by decide) (backOf (W := 0) (rm_Good_of_1 l Z a0 hw [] lo dn ci2 ci1 al ea kea ci28 els xf h0 n0 Z0 f35 hq0 hq1 Z_S_ALL O0 f34 f36 f37 f38 f39 hpk hq2 hq3 E_xf) hZ (tw61 hw) (tw54 hw) (by decide) (by decide)) (g := (mkF m 4 #[vi dn] [(.int dn), (.ref lo)])) rfl (by rw [hml]; rfl) (argsL := [(.ref lo), (.int dn)]) (rest := []) (lenOf pd_2 rfl) rfl (Nat.le_of_eq rfl) (hb hby d4_4) (fun _ _ => ⟨rfl, e40, (by decide : 0 + 0 ≤ _), (by decide : 0 + 0 ≤ _)⟩)
  dsimp only [Pt.U, Pt.locs, Pt.cells, Pt.slots] at X57 l57 y57 z57 st57 hQ57
  subst l57 y57 z57
  obtain ⟨rfl, N57q, eq57⟩ := hQ57
  have N58 := Fr.app N0 N57q
  refine Go.step (fun _ k => st57 _ k) ?_
  show Go p e below s _ _ _ T57 (mkF m 7 #[vi dn] [(.ref xf)])
  exact Go.retA X57 hx hlk Bd.returns rfl rfl (hb hby d4_7) eq57 ⟨rfl, N58, rfl⟩ (by decide) (by decide)

theorem ef_Good_of_2 (m : MethodId) (x0 : Addr) (x1 : Int32) : entryFrame m #[(.ref x0), (.int x1)] 2 = mkF m 0 #[vr x0, vi x1] [] := by first | (simp [entryFrame, mkF, argsToLocals, Value.category]; done) | rfl
def Q_Good_of_2 (Z : State) (lg : Addr) (dn : Int32) (n70 : Int32) (n74 : Int32) (al : Addr) (ea : Addr) (kea : ClassId) (n78 : Int32) (els : List Value) (x79 : Addr) (h0 : Heap) (n0 : Nat) (v : Option Value) (h : Heap) (L : List Loc) : Prop := v = some (.ref x79) ∧ Fr n0 L ∧ h = h0
set_option maxRecDepth 65536 in
set_option maxHeartbeats 40000000 in
theorem rm_Good_of_2 (l : Launch) (Z : State) (a0 : Array Value) (hw : ∀ d ∈ tables_1, d.before a0 Z = true) (ws : List Jvm.Cond) (lg : Addr) (dn : Int32) (n70 : Int32) (n74 : Int32) (al : Addr) (ea : Addr) (kea : ClassId) (n78 : Int32) (els : List Value) (x79 : Addr) (h0 : Heap) (n0 : Nat) (Z0 : n0 ≤ h0.size) (F_first_lg : Fld Z h0 lg xs11 "first" "I" (.int n70)) (hq0 : ¬ dn < n70) (hq1 : dn < (n70 + ci4)) (Z_S_ALL : Sta Z Z.heap xs17 "ALL" xs40 (.ref al)) (O0 : Old Z n0 h0) (E_lg : Exa Z h0 lg xs11) (F_ordinal_lg : Fld Z h0 lg xs43 "ordinal" "I" (.int n74)) (E_al : Exa Z h0 al xs22) (F_elements_al : Fld Z h0 al xs22 "elements" xs34 (.ref ea)) (V_ea : Arv Z h0 ea kea (.object xs39) n78 els .null) (pk_80 : (els : List Value).getD ((((n74 * ci4) + dn) - n70)).toNatClampNeg .null = .ref x79) (d_81 : ¬ (((n74 * ci4) + dn) - n70) < ci0) (d_82 : (((n74 * ci4) + dn) - n70) < n78) (E_x79 : Exa Z h0 x79 xs17) :
    MetFree l xm36 (head1 (Jvm.Cond.code xm36 prog_50_method_6_code 2 (some (.object xs17)) :: ws) xr4) (fun a U => a = #[(.ref lg), (.int dn)] ∧ Z.Warmed39 U.vm ∧ U.heap = h0) (fun _ _ _ _ _ => True) (fun _ U o U' => ∃ v L, o = .returned v ∧ Q_Good_of_2 Z lg dn n70 n74 al ea kea n78 els x79 h0 n0 v U'.heap L ∧ FrameEnd U o U' L xr4.cells xr4.slots) := by
  refine MetFree.of_bodySF (plainFor_of_name pn_2) hisR ?_
  intro p e s m args below meth c s₁ Bd hml0 hP hK
  obtain ⟨rfl, hZ, hh⟩ := hP
  have hx := Bd.exec
  have hby := Bd.bytes
  have hlk : meth.locks = false := BodyLoose.notSynchronized Bd
  have hml : c.maxLocals = 2 := hml0
  have hown : s.vm.findClass xs17 = some m.cls := findClass_of_methodNamed Bd.named
  have hnm := (name_of_methodNamed Bd.named Bd.method).1
  have X0 : Stand p l e xr4 s m #[(.ref lg), (.int dn)] below meth c s₁ [] 0 0 := Stand.of_body Bd
  have e0 : s₁.heap = h0 := by rw [← hh, Bd.state]; rfl
  have N0 := Fr.nil n0
  show Go p e below s (Q_Good_of_2 Z lg dn n70 n74 al ea kea n78 els x79 h0 n0) xr4.cells xr4.slots s₁ (entryFrame m #[(.ref lg), (.int dn)] 2)
  refine Go.cast (ef_Good_of_2 m lg dn) ?_
  show Go p e below s _ _ _ s₁ (mkF m 0 #[vr lg, vi dn] [])
  refine Go.step (fun _ k => XS.iloadN X0.here hx rfl (hb hby d1_0) rfl (XS.aloadN X0.here hx rfl (hb hby d1_1) rfl rfl k)) ?_
  show Go p e below s _ _ _ s₁ (mkF m 2 #[vr lg, vi dn] [(.ref lg), (.int dn)])
  obtain ⟨T71, X71, e71, st71⟩ := own_getR X0 hx hZ hown (tw62 hw) e0 F_first_lg (g := (mkF m 2 #[vr lg, vi dn] [(.ref lg), (.int dn)])) rfl rfl (hb hby d1_2)
  refine Go.step (fun _ k => st71 _ (XS.icmpNo X71.here hx rfl (hb hby d1_5) rfl (flt hq0).1 (XS.iloadN X71.here hx rfl (hb hby d1_8) rfl (XS.aloadN X71.here hx rfl (hb hby d1_9) rfl rfl k)))) ?_
  show Go p e below s _ _ _ T71 (mkF m 10 #[vr lg, vi dn] [(.ref lg), (.int dn)])
  obtain ⟨T72, X72, e72, st72⟩ := own_getR X71 hx hZ hown (tw62 hw) e71 F_first_lg (g := (mkF m 10 #[vr lg, vi dn] [(.ref lg), (.int dn)])) rfl rfl (hb hby d1_10)
  refine Go.step (fun _ k => st72 _ (XS.iconst X72.here hx rfl (hb hby d1_13) (XS.iadd X72.here hx rfl (hb hby d1_14) rfl (XS.icmpYes X72.here hx rfl (pc0 := 15) (pc' := 48) rfl (hb hby d1_15) rfl (tlt hq1).1 (by decide) (by decide) k)))) ?_
  show Go p e below s _ _ _ T72 (mkF m 48 #[vr lg, vi dn] [])
  obtain ⟨T73, X73, e73, st73⟩ := getS2 X72 hx hZ hown (host := "") (Or.inl (tw64 hw)) Via.refl e72 (Z_S_ALL.ext O0.2) (g := (mkF m 48 #[vr lg, vi dn] [])) rfl (hb hby d1_48)
  refine Go.step (fun _ k => st73 _ (XS.aloadN X73.here hx rfl (hb hby d1_51) rfl rfl k)) ?_
  show Go p e below s _ _ _ T73 (mkF m 52 #[vr lg, vi dn] [(.ref lg), (.ref al)])
  obtain ⟨cq75, kq75, q75a, q75b, q75c⟩ := isOf hZ e73 E_lg
  obtain ⟨_, _, ⟨T75, L75, k75, n75⟩, -, X75, ⟨Lc75, hQ75, l75, y75, z75⟩, st75⟩ := X73.virtualBackUp hx (owner := xs43) (x := xm8) (y := xm7) hown (mvT hZ (tw66 hw)) (mvT hZ (tw67 hw)) (mvT hZ (tw68 hw)) (by decide) (mvT hZ (tw70 hw)) (mvT hZ (tw69 hw)) (backOf (W := 1) (rm_Enum_ordinal_0 l Z a0 hw [] lg n74 h0 n0 Z0 F_ordinal_lg) hZ (tw72 hw) (tw71 hw) (by decide) (by decide)) q75a q75c (g := (mkF m 52 #[vr lg, vi dn] [(.ref lg), (.ref al)])) rfl (by rw [hml]; rfl) (Steps.refl _) (argsL := []) (rest := [(.ref al)]) (lenOf pd_0 rfl) rfl (Nat.le_of_eq rfl) (hb hby d1_52) (fun _ _ => ⟨rfl, e73, (by decide : 0 + 0 ≤ _), (by decide : 0 + 0 ≤ _)⟩)
  dsimp only [Pt.U, Pt.locs, Pt.cells, Pt.slots] at X75 l75 y75 z75 st75 hQ75
  subst l75 y75 z75
  obtain ⟨rfl, N75q, eq75⟩ := hQ75
  have N76 := Fr.app N0 N75q
  refine Go.step (fun _ k => st75.trans (XS.iconst X75.here hx rfl (hb hby d1_55) (XS.imul X75.here hx rfl (hb hby d1_56) rfl (XS.iloadN X75.here hx rfl (hb hby d1_57) rfl (XS.iadd X75.here hx rfl (hb hby d1_58) rfl (XS.aloadN X75.here hx rfl (hb hby d1_59) rfl rfl k)))))) ?_
  show Go p e below s _ _ _ T75 (mkF m 60 #[vr lg, vi dn] [(.ref lg), (.int ((n74 * ci4) + dn)), (.ref al)])
  obtain ⟨T77, X77, e77, st77⟩ := own_getR X75 hx hZ hown (tw62 hw) eq75 F_first_lg (g := (mkF m 60 #[vr lg, vi dn] [(.ref lg), (.int ((n74 * ci4) + dn)), (.ref al)])) rfl rfl (hb hby d1_60)
  refine Go.step (fun _ k => st77 _ (XS.isub X77.here hx rfl (hb hby d1_63) rfl k)) ?_
  show Go p e below s _ _ _ T77 (mkF m 64 #[vr lg, vi dn] [(.int (((n74 * ci4) + dn) - n70)), (.ref al)])
  obtain ⟨cq83, kq83, q83a, q83b, q83c⟩ := isOf hZ e77 E_al
  obtain ⟨_, _, ⟨T83, L83, k83, n83⟩, -, X83, ⟨Lc83, hQ83, l83, y83, z83⟩, st83⟩ := X77.interfaceBack hx (xi := xm29) (y := xm28) hown (mvT hZ (tw75 hw)) (mvT hZ (tw76 hw)) (mvT hZ (tw77 hw)) (mvT hZ (tw78 hw)) (mvT hZ (tw79 hw)) (mvT hZ (tw80 hw)) (mvT hZ (tw81 hw)) (mvT hZ (tw82 hw)) (by decide) (backOf (W := 0) (rm_ImmutableCollections_ListN_get_0 l Z a0 hw [] al (((n74 * ci4) + dn) - n70) ea kea n78 els x79 h0 n0 Z0 F_elements_al V_ea pk_80 d_81 d_82) hZ (tw84 hw) (tw83 hw) (by decide) (by decide)) q83a q83b q83c (g := (mkF m 64 #[vr lg, vi dn] [(.int (((n74 * ci4) + dn) - n70)), (.ref al)])) rfl (by rw [hml]; rfl) (Steps.refl _) (argsL := [(.int (((n74 * ci4) + dn) - n70))]) (rest := []) (lenOf pd_1 rfl) rfl (Nat.le_of_eq rfl) (hb hby d1_64) (fun _ _ => ⟨rfl, e77, (by decide : 0 + 0 ≤ _), (by decide : 0 + 0 ≤ _)⟩)
  dsimp only [Pt.U, Pt.locs, Pt.cells, Pt.slots] at X83 l83 y83 z83 st83 hQ83
  subst l83 y83 z83
  obtain ⟨rfl, N83q, eq83⟩ := hQ83
  have N84 := Fr.app N76 N83q
  refine Go.step (fun _ k => st83.trans k) ?_
  show Go p e below s _ _ _ T83 (mkF m 69 #[vr lg, vi dn] [(.ref x79)])
  obtain ⟨T85, X85, e85, st85⟩ := castY X83 hx hZ hown (tw87 hw) eq83 (Ins.self E_x79) (g := (mkF m 69 #[vr lg, vi dn] [(.ref x79)])) rfl rfl (hb hby d1_69)
  refine Go.step (fun _ k => st85 _ k) ?_
  show Go p e below s _ _ _ T85 (mkF m 72 #[vr lg, vi dn] [(.ref x79)])
  exact Go.retA X85 hx hlk Bd.returns rfl rfl (hb hby d1_72) e85 ⟨rfl, N84, rfl⟩ (by decide) (by decide)

theorem ef_Good_of_3 (m : MethodId) (x0 : Addr) (x1 : Int32) : entryFrame m #[(.ref x0), (.int x1)] 2 = mkF m 0 #[vr x0, vi x1] [] := by first | (simp [entryFrame, mkF, argsToLocals, Value.category]; done) | rfl
def Q_Good_of_3 (Z : State) (lc : Addr) (dn : Int32) (n90 : Int32) (n94 : Int32) (al : Addr) (ea : Addr) (kea : ClassId) (n98 : Int32) (els : List Value) (x99 : Addr) (h0 : Heap) (n0 : Nat) (v : Option Value) (h : Heap) (L : List Loc) : Prop := v = some (.ref x99) ∧ Fr n0 L ∧ h = h0
set_option maxRecDepth 65536 in
set_option maxHeartbeats 40000000 in
theorem rm_Good_of_3 (l : Launch) (Z : State) (a0 : Array Value) (hw : ∀ d ∈ tables_1, d.before a0 Z = true) (ws : List Jvm.Cond) (lc : Addr) (dn : Int32) (n90 : Int32) (n94 : Int32) (al : Addr) (ea : Addr) (kea : ClassId) (n98 : Int32) (els : List Value) (x99 : Addr) (h0 : Heap) (n0 : Nat) (Z0 : n0 ≤ h0.size) (F_first_lc : Fld Z h0 lc xs11 "first" "I" (.int n90)) (hq0 : ¬ dn < n90) (hq1 : dn < (n90 + ci4)) (Z_S_ALL : Sta Z Z.heap xs17 "ALL" xs40 (.ref al)) (O0 : Old Z n0 h0) (E_lc : Exa Z h0 lc xs11) (F_ordinal_lc : Fld Z h0 lc xs43 "ordinal" "I" (.int n94)) (E_al : Exa Z h0 al xs22) (F_elements_al : Fld Z h0 al xs22 "elements" xs34 (.ref ea)) (V_ea : Arv Z h0 ea kea (.object xs39) n98 els .null) (pk_100 : (els : List Value).getD ((((n94 * ci4) + dn) - n90)).toNatClampNeg .null = .ref x99) (d_101 : ¬ (((n94 * ci4) + dn) - n90) < ci0) (d_102 : (((n94 * ci4) + dn) - n90) < n98) (E_x99 : Exa Z h0 x99 xs17) :
    MetFree l xm36 (head1 (Jvm.Cond.code xm36 prog_50_method_6_code 2 (some (.object xs17)) :: ws) xr4) (fun a U => a = #[(.ref lc), (.int dn)] ∧ Z.Warmed39 U.vm ∧ U.heap = h0) (fun _ _ _ _ _ => True) (fun _ U o U' => ∃ v L, o = .returned v ∧ Q_Good_of_3 Z lc dn n90 n94 al ea kea n98 els x99 h0 n0 v U'.heap L ∧ FrameEnd U o U' L xr4.cells xr4.slots) := by
  refine MetFree.of_bodySF (plainFor_of_name pn_2) hisR ?_
  intro p e s m args below meth c s₁ Bd hml0 hP hK
  obtain ⟨rfl, hZ, hh⟩ := hP
  have hx := Bd.exec
  have hby := Bd.bytes
  have hlk : meth.locks = false := BodyLoose.notSynchronized Bd
  have hml : c.maxLocals = 2 := hml0
  have hown : s.vm.findClass xs17 = some m.cls := findClass_of_methodNamed Bd.named
  have hnm := (name_of_methodNamed Bd.named Bd.method).1
  have X0 : Stand p l e xr4 s m #[(.ref lc), (.int dn)] below meth c s₁ [] 0 0 := Stand.of_body Bd
  have e0 : s₁.heap = h0 := by rw [← hh, Bd.state]; rfl
  have N0 := Fr.nil n0
  show Go p e below s (Q_Good_of_3 Z lc dn n90 n94 al ea kea n98 els x99 h0 n0) xr4.cells xr4.slots s₁ (entryFrame m #[(.ref lc), (.int dn)] 2)
  refine Go.cast (ef_Good_of_3 m lc dn) ?_
  show Go p e below s _ _ _ s₁ (mkF m 0 #[vr lc, vi dn] [])
  refine Go.step (fun _ k => XS.iloadN X0.here hx rfl (hb hby d1_0) rfl (XS.aloadN X0.here hx rfl (hb hby d1_1) rfl rfl k)) ?_
  show Go p e below s _ _ _ s₁ (mkF m 2 #[vr lc, vi dn] [(.ref lc), (.int dn)])
  obtain ⟨T91, X91, e91, st91⟩ := own_getR X0 hx hZ hown (tw62 hw) e0 F_first_lc (g := (mkF m 2 #[vr lc, vi dn] [(.ref lc), (.int dn)])) rfl rfl (hb hby d1_2)
  refine Go.step (fun _ k => st91 _ (XS.icmpNo X91.here hx rfl (hb hby d1_5) rfl (flt hq0).1 (XS.iloadN X91.here hx rfl (hb hby d1_8) rfl (XS.aloadN X91.here hx rfl (hb hby d1_9) rfl rfl k)))) ?_
  show Go p e below s _ _ _ T91 (mkF m 10 #[vr lc, vi dn] [(.ref lc), (.int dn)])
  obtain ⟨T92, X92, e92, st92⟩ := own_getR X91 hx hZ hown (tw62 hw) e91 F_first_lc (g := (mkF m 10 #[vr lc, vi dn] [(.ref lc), (.int dn)])) rfl rfl (hb hby d1_10)
  refine Go.step (fun _ k => st92 _ (XS.iconst X92.here hx rfl (hb hby d1_13) (XS.iadd X92.here hx rfl (hb hby d1_14) rfl (XS.icmpYes X92.here hx rfl (pc0 := 15) (pc' := 48) rfl (hb hby d1_15) rfl (tlt hq1).1 (by decide) (by decide) k)))) ?_
  show Go p e below s _ _ _ T92 (mkF m 48 #[vr lc, vi dn] [])
  obtain ⟨T93, X93, e93, st93⟩ := getS2 X92 hx hZ hown (host := "") (Or.inl (tw64 hw)) Via.refl e92 (Z_S_ALL.ext O0.2) (g := (mkF m 48 #[vr lc, vi dn] [])) rfl (hb hby d1_48)
  refine Go.step (fun _ k => st93 _ (XS.aloadN X93.here hx rfl (hb hby d1_51) rfl rfl k)) ?_
  show Go p e below s _ _ _ T93 (mkF m 52 #[vr lc, vi dn] [(.ref lc), (.ref al)])
  obtain ⟨cq95, kq95, q95a, q95b, q95c⟩ := isOf hZ e93 E_lc
  obtain ⟨_, _, ⟨T95, L95, k95, n95⟩, -, X95, ⟨Lc95, hQ95, l95, y95, z95⟩, st95⟩ := X93.virtualBackUp hx (owner := xs43) (x := xm8) (y := xm7) hown (mvT hZ (tw66 hw)) (mvT hZ (tw67 hw)) (mvT hZ (tw68 hw)) (by decide) (mvT hZ (tw70 hw)) (mvT hZ (tw69 hw)) (backOf (W := 1) (rm_Enum_ordinal_0 l Z a0 hw [] lc n94 h0 n0 Z0 F_ordinal_lc) hZ (tw72 hw) (tw71 hw) (by decide) (by decide)) q95a q95c (g := (mkF m 52 #[vr lc, vi dn] [(.ref lc), (.ref al)])) rfl (by rw [hml]; rfl) (Steps.refl _) (argsL := []) (rest := [(.ref al)]) (lenOf pd_0 rfl) rfl (Nat.le_of_eq rfl) (hb hby d1_52) (fun _ _ => ⟨rfl, e93, (by decide : 0 + 0 ≤ _), (by decide : 0 + 0 ≤ _)⟩)
  dsimp only [Pt.U, Pt.locs, Pt.cells, Pt.slots] at X95 l95 y95 z95 st95 hQ95
  subst l95 y95 z95
  obtain ⟨rfl, N95q, eq95⟩ := hQ95
  have N96 := Fr.app N0 N95q
  refine Go.step (fun _ k => st95.trans (XS.iconst X95.here hx rfl (hb hby d1_55) (XS.imul X95.here hx rfl (hb hby d1_56) rfl (XS.iloadN X95.here hx rfl (hb hby d1_57) rfl (XS.iadd X95.here hx rfl (hb hby d1_58) rfl (XS.aloadN X95.here hx rfl (hb hby d1_59) rfl rfl k)))))) ?_
  show Go p e below s _ _ _ T95 (mkF m 60 #[vr lc, vi dn] [(.ref lc), (.int ((n94 * ci4) + dn)), (.ref al)])
  obtain ⟨T97, X97, e97, st97⟩ := own_getR X95 hx hZ hown (tw62 hw) eq95 F_first_lc (g := (mkF m 60 #[vr lc, vi dn] [(.ref lc), (.int ((n94 * ci4) + dn)), (.ref al)])) rfl rfl (hb hby d1_60)
  refine Go.step (fun _ k => st97 _ (XS.isub X97.here hx rfl (hb hby d1_63) rfl k)) ?_
  show Go p e below s _ _ _ T97 (mkF m 64 #[vr lc, vi dn] [(.int (((n94 * ci4) + dn) - n90)), (.ref al)])
  obtain ⟨cq103, kq103, q103a, q103b, q103c⟩ := isOf hZ e97 E_al
  obtain ⟨_, _, ⟨T103, L103, k103, n103⟩, -, X103, ⟨Lc103, hQ103, l103, y103, z103⟩, st103⟩ := X97.interfaceBack hx (xi := xm29) (y := xm28) hown (mvT hZ (tw75 hw)) (mvT hZ (tw76 hw)) (mvT hZ (tw77 hw)) (mvT hZ (tw78 hw)) (mvT hZ (tw79 hw)) (mvT hZ (tw80 hw)) (mvT hZ (tw81 hw)) (mvT hZ (tw82 hw)) (by decide) (backOf (W := 0) (rm_ImmutableCollections_ListN_get_0 l Z a0 hw [] al (((n94 * ci4) + dn) - n90) ea kea n98 els x99 h0 n0 Z0 F_elements_al V_ea pk_100 d_101 d_102) hZ (tw84 hw) (tw83 hw) (by decide) (by decide)) q103a q103b q103c (g := (mkF m 64 #[vr lc, vi dn] [(.int (((n94 * ci4) + dn) - n90)), (.ref al)])) rfl (by rw [hml]; rfl) (Steps.refl _) (argsL := [(.int (((n94 * ci4) + dn) - n90))]) (rest := []) (lenOf pd_1 rfl) rfl (Nat.le_of_eq rfl) (hb hby d1_64) (fun _ _ => ⟨rfl, e97, (by decide : 0 + 0 ≤ _), (by decide : 0 + 0 ≤ _)⟩)
  dsimp only [Pt.U, Pt.locs, Pt.cells, Pt.slots] at X103 l103 y103 z103 st103 hQ103
  subst l103 y103 z103
  obtain ⟨rfl, N103q, eq103⟩ := hQ103
  have N104 := Fr.app N96 N103q
  refine Go.step (fun _ k => st103.trans k) ?_
  show Go p e below s _ _ _ T103 (mkF m 69 #[vr lc, vi dn] [(.ref x99)])
  obtain ⟨T105, X105, e105, st105⟩ := castY X103 hx hZ hown (tw87 hw) eq103 (Ins.self E_x99) (g := (mkF m 69 #[vr lc, vi dn] [(.ref x99)])) rfl rfl (hb hby d1_69)
  refine Go.step (fun _ k => st105 _ k) ?_
  show Go p e below s _ _ _ T105 (mkF m 72 #[vr lc, vi dn] [(.ref x99)])
  exact Go.retA X105 hx hlk Bd.returns rfl rfl (hb hby d1_72) e105 ⟨rfl, N104, rfl⟩ (by decide) (by decide)

theorem ef_room (m : MethodId) (x0 : Addr) (x1 : Int32) : entryFrame m #[(.ref x0), (.int x1)] 2 = mkF m 0 #[vr x0, vi x1] [] := by first | (simp [entryFrame, mkF, argsToLocals, Value.category]; done) | rfl
def Q_room (Z : State) (hot : Addr) (kk : Int32) (dn : Int32) (xf : Addr) (hg : Addr) (lg : Addr) (lc : Addr) (al : Addr) (ea : Addr) (kea : ClassId) (els : List Value) (h0 : Heap) (n0 : Nat) (v : Option Value) (h : Heap) (L : List Loc) : Prop := v = some (.ref xf) ∧ Fr n0 L ∧ h = h0
set_option maxRecDepth 65536 in
set_option maxHeartbeats 40000000 in
theorem rm_room (l : Launch) (Z : State) (a0 : Array Value) (hw : ∀ d ∈ tables_1, d.before a0 Z = true) (ws : List Jvm.Cond) (hot : Addr) (kk : Int32) (dn : Int32) (xf : Addr) (hg : Addr) (lg : Addr) (lc : Addr) (al : Addr) (ea : Addr) (kea : ClassId) (els : List Value) (h0 : Heap) (n0 : Nat) (Z0 : n0 ≤ h0.size) (O0 : Old Z n0 h0) (Z_S_GOOD : Sta Z Z.heap xs16 "GOOD" xs13 (.ref hg)) (Z_S_GOOD_HOTEL : Sta Z Z.heap xs11 "GOOD_HOTEL" xs10 (.ref lg)) (Z_E_lg : Exa Z Z.heap lg xs11) (Z_F_first_lg : Fld Z Z.heap lg xs11 "first" "I" cv1) (Z_F_ordinal_lg : Fld Z Z.heap lg xs43 "ordinal" "I" cv2) (Z_S_CHEAP_HOTEL : Sta Z Z.heap xs11 "CHEAP_HOTEL" xs10 (.ref lc)) (Z_E_lc : Exa Z Z.heap lc xs11) (Z_F_first_lc : Fld Z Z.heap lc xs11 "first" "I" cv1) (Z_F_ordinal_lc : Fld Z Z.heap lc xs43 "ordinal" "I" cv3) (Z_S_ALL : Sta Z Z.heap xs17 "ALL" xs40 (.ref al)) (Z_E_al : Exa Z Z.heap al xs22) (Z_F_elements_al : Fld Z Z.heap al xs22 "elements" xs34 (.ref ea)) (Z_A_ea : Arv Z Z.heap ea kea (.object xs39) ci28 els .null) (E_xf : Exa Z h0 xf xs17) (hKk : own_K hg hot kk) (hI : own_I dn) (hpk : (els : List Value).getD ((((kk * ci4) + dn) - ci1)).toNatClampNeg .null = .ref xf) :
    MetFree l xm30 (head1 (Jvm.Cond.code xm30 prog_50_method_4_code 2 (some (.object xs17)) :: ws) xr5) (fun a U => a = #[(.ref hot), (.int dn)] ∧ Z.Warmed39 U.vm ∧ U.heap = h0) (fun _ _ _ _ _ => True) (fun _ U o U' => ∃ v L, o = .returned v ∧ Q_room Z hot kk dn xf hg lg lc al ea kea els h0 n0 v U'.heap L ∧ FrameEnd U o U' L xr5.cells xr5.slots) := by
  refine MetFree.of_bodySF (plainFor_of_name pn_2) hisR ?_
  intro p e s m args below meth c s₁ Bd hml0 hP hK
  obtain ⟨rfl, hZ, hh⟩ := hP
  have hx := Bd.exec
  have hby := Bd.bytes
  have hlk : meth.locks = false := BodyLoose.notSynchronized Bd
  have hml : c.maxLocals = 2 := hml0
  have hown : s.vm.findClass xs17 = some m.cls := findClass_of_methodNamed Bd.named
  have hnm := (name_of_methodNamed Bd.named Bd.method).1
  have X0 : Stand p l e xr5 s m #[(.ref hot), (.int dn)] below meth c s₁ [] 0 0 := Stand.of_body Bd
  have e0 : s₁.heap = h0 := by rw [← hh, Bd.state]; rfl
  have N0 := Fr.nil n0
  show Go p e below s (Q_room Z hot kk dn xf hg lg lc al ea kea els h0 n0) xr5.cells xr5.slots s₁ (entryFrame m #[(.ref hot), (.int dn)] 2)
  refine Go.cast (ef_room m hot dn) ?_
  show Go p e below s _ _ _ s₁ (mkF m 0 #[vr hot, vi dn] [])
  have f59 := Z_E_lg.ext O0.2
  have f60 := Z_F_first_lg.ext O0.2
  have f61 := Z_F_ordinal_lg.ext O0.2
  have f62 := Z_E_lc.ext O0.2
  have f63 := Z_F_first_lc.ext O0.2
  have f64 := Z_F_ordinal_lc.ext O0.2
  have f65 := Z_E_al.ext O0.2
  have f66 := Z_F_elements_al.ext O0.2
  have f67 := Z_A_ea.ext O0.2
  rcases hKk with ⟨rfl, rfl⟩ | ⟨hne, rfl⟩
  · show Go p e below s _ _ _ s₁ (mkF m 0 #[vr hg, vi dn] [])
    have hq0 : ¬ dn < ci1 := by rcases hI with rfl | rfl | rfl | rfl <;> decide
    have hq1 : dn < (ci1 + ci4) := by rcases hI with rfl | rfl | rfl | rfl <;> decide
    have hq2 : ¬ (((ci2 * ci4) + dn) - ci1) < ci0 := by rcases hI with rfl | rfl | rfl | rfl <;> decide
    have hq3 : (((ci2 * ci4) + dn) - ci1) < ci28 := by rcases hI with rfl | rfl | rfl | rfl <;> decide
    refine Go.step (fun _ k => XS.aloadN X0.here hx rfl (hb hby d5_0) rfl rfl k) ?_
    show Go p e below s _ _ _ s₁ (mkF m 1 #[vr hg, vi dn] [(.ref hg)])
    obtain ⟨T68, X68, e68, st68⟩ := getS2 X0 hx hZ hown (host := "") (Or.inl (tw191 hw)) Via.refl e0 (Z_S_GOOD.ext O0.2) (g := (mkF m 1 #[vr hg, vi dn] [(.ref hg)])) rfl (hb hby d5_1)
    refine Go.step (fun _ k => st68 _ (Jvm.RoadKit.acmp (g := (mkF m 4 #[vr hg, vi dn] [(.ref hg), (.ref hg)])) X68 hx rfl rfl rfl (pc0 := 4) (pc' := 7) (same := true) rfl (hb hby d5_4) rfl (decide_eq_true rfl) (by decide) (by decide) k)) ?_
    show Go p e below s _ _ _ T68 (mkF m 7 #[vr hg, vi dn] [])
    obtain ⟨T69, X69, e69, st69⟩ := getS2 X68 hx hZ hown (host := "") (Or.inl (tw267 hw)) Via.refl e68 (Z_S_GOOD_HOTEL.ext O0.2) (g := (mkF m 7 #[vr hg, vi dn] [])) rfl (hb hby d5_7)
    refine Go.step (fun _ k => st69 _ (XS.goto X69.here hx rfl (pc0 := 10) (pc' := 16) rfl (hb hby d5_10) (by decide) (by decide) (XS.iloadN X69.here hx rfl (hb hby d5_16) rfl k))) ?_
    show Go p e below s _ _ _ T69 (mkF m 17 #[vr hg, vi dn] [(.int dn), (.ref lg)])
    obtain ⟨_, _, ⟨T86, L86, k86, n86⟩, -, X86, ⟨Lc86, hQ86, l86, y86, z86⟩, st86⟩ := Jvm.LawKit.callS X69 hx (y := xm36) hown (mvT hZ (tw59 hw)) (mvT hZ (tw60 hw)) (mvT hZ (tw54 hw)) (mvT hZ (tw61 hw)) (by decide) (backOf (W := 0) (rm_Good_of_2 l Z a0 hw [] lg dn ci1 ci2 al ea kea ci28 els xf h0 n0 Z0 f60 hq0 hq1 Z_S_ALL O0 f59 f61 f65 f66 f67 hpk hq2 hq3 E_xf) hZ (tw61 hw) (tw54 hw) (by decide) (by decide)) (g := (mkF m 17 #[vr hg, vi dn] [(.int dn), (.ref lg)])) rfl (by rw [hml]; rfl) (argsL := [(.ref lg), (.int dn)]) (rest := []) (lenOf pd_2 rfl) rfl (Nat.le_of_eq rfl) (hb hby d5_17) (fun _ _ => ⟨rfl, e69, (by decide : 0 + 0 ≤ _), (by decide : 0 + 0 ≤ _)⟩)
    dsimp only [Pt.U, Pt.locs, Pt.cells, Pt.slots] at X86 l86 y86 z86 st86 hQ86
    subst l86 y86 z86
    obtain ⟨rfl, N86q, eq86⟩ := hQ86
    have N87 := Fr.app N0 N86q
    refine Go.step (fun _ k => st86 _ k) ?_
    show Go p e below s _ _ _ T86 (mkF m 20 #[vr hg, vi dn] [(.ref xf)])
    exact Go.retA X86 hx hlk Bd.returns rfl rfl (hb hby d5_20) eq86 ⟨rfl, N87, rfl⟩ (by decide) (by decide)
  · show Go p e below s _ _ _ s₁ (mkF m 0 #[vr hot, vi dn] [])
    have hq0 : ¬ dn < ci1 := by rcases hI with rfl | rfl | rfl | rfl <;> decide
    have hq1 : dn < (ci1 + ci4) := by rcases hI with rfl | rfl | rfl | rfl <;> decide
    have hq2 : ¬ (((ci3 * ci4) + dn) - ci1) < ci0 := by rcases hI with rfl | rfl | rfl | rfl <;> decide
    have hq3 : (((ci3 * ci4) + dn) - ci1) < ci28 := by rcases hI with rfl | rfl | rfl | rfl <;> decide
    refine Go.step (fun _ k => XS.aloadN X0.here hx rfl (hb hby d5_0) rfl rfl k) ?_
    show Go p e below s _ _ _ s₁ (mkF m 1 #[vr hot, vi dn] [(.ref hot)])
    obtain ⟨T88, X88, e88, st88⟩ := getS2 X0 hx hZ hown (host := "") (Or.inl (tw191 hw)) Via.refl e0 (Z_S_GOOD.ext O0.2) (g := (mkF m 1 #[vr hot, vi dn] [(.ref hot)])) rfl (hb hby d5_1)
    refine Go.step (fun _ k => st88 _ (Jvm.RoadKit.acmp (g := (mkF m 4 #[vr hot, vi dn] [(.ref hg), (.ref hot)])) X88 hx rfl rfl rfl (pc0 := 4) (pc' := 13) (same := false) rfl (hb hby d5_4) rfl (decide_eq_false ((fun q => (Ne.symm hne) (Value.ref.inj q)))) (by decide) (by decide) k)) ?_
    show Go p e below s _ _ _ T88 (mkF m 13 #[vr hot, vi dn] [])
    obtain ⟨T89, X89, e89, st89⟩ := getS2 X88 hx hZ hown (host := "") (Or.inl (tw193 hw)) Via.refl e88 (Z_S_CHEAP_HOTEL.ext O0.2) (g := (mkF m 13 #[vr hot, vi dn] [])) rfl (hb hby d5_13)
    refine Go.step (fun _ k => st89 _ (XS.iloadN X89.here hx rfl (hb hby d5_16) rfl k)) ?_
    show Go p e below s _ _ _ T89 (mkF m 17 #[vr hot, vi dn] [(.int dn), (.ref lc)])
    obtain ⟨_, _, ⟨T106, L106, k106, n106⟩, -, X106, ⟨Lc106, hQ106, l106, y106, z106⟩, st106⟩ := Jvm.LawKit.callS X89 hx (y := xm36) hown (mvT hZ (tw59 hw)) (mvT hZ (tw60 hw)) (mvT hZ (tw54 hw)) (mvT hZ (tw61 hw)) (by decide) (backOf (W := 0) (rm_Good_of_3 l Z a0 hw [] lc dn ci1 ci3 al ea kea ci28 els xf h0 n0 Z0 f63 hq0 hq1 Z_S_ALL O0 f62 f64 f65 f66 f67 hpk hq2 hq3 E_xf) hZ (tw61 hw) (tw54 hw) (by decide) (by decide)) (g := (mkF m 17 #[vr hot, vi dn] [(.int dn), (.ref lc)])) rfl (by rw [hml]; rfl) (argsL := [(.ref lc), (.int dn)]) (rest := []) (lenOf pd_2 rfl) rfl (Nat.le_of_eq rfl) (hb hby d5_17) (fun _ _ => ⟨rfl, e89, (by decide : 0 + 0 ≤ _), (by decide : 0 + 0 ≤ _)⟩)
    dsimp only [Pt.U, Pt.locs, Pt.cells, Pt.slots] at X106 l106 y106 z106 st106 hQ106
    subst l106 y106 z106
    obtain ⟨rfl, N106q, eq106⟩ := hQ106
    have N107 := Fr.app N0 N106q
    refine Go.step (fun _ k => st106 _ k) ?_
    show Go p e below s _ _ _ T106 (mkF m 20 #[vr hot, vi dn] [(.ref xf)])
    exact Go.retA X106 hx hlk Bd.returns rfl rfl (hb hby d5_20) eq106 ⟨rfl, N107, rfl⟩ (by decide) (by decide)

theorem ef_nit (m : MethodId) (x0 : Addr) (x1 : Int32) : entryFrame m #[(.ref x0), (.int x1)] 2 = mkF m 0 #[vr x0, vi x1] [] := by first | (simp [entryFrame, mkF, argsToLocals, Value.category]; done) | rfl
def Q_nit (Z : State) (bt : Addr) (ar : Int32) (dp : Int32) (dn : Int32) (h0 : Heap) (n0 : Nat) (v : Option Value) (h : Heap) (L : List Loc) : Prop := v = some (.int (own_nit ar dp dn)) ∧ Fr n0 L ∧ h = h0
set_option maxRecDepth 65536 in
set_option maxHeartbeats 40000000 in
theorem rm_nit (l : Launch) (Z : State) (a0 : Array Value) (hw : ∀ d ∈ tables_1, d.before a0 Z = true) (ws : List Jvm.Cond) (bt : Addr) (ar : Int32) (dp : Int32) (dn : Int32) (h0 : Heap) (n0 : Nat) (Z0 : n0 ≤ h0.size) (F_arrival_bt : Fld Z h0 bt xs18 "arrival" "I" (.int ar)) (F_departure_bt : Fld Z h0 bt xs18 "departure" "I" (.int dp)) :
    MetFree l xm0 (head1 (Jvm.Cond.code xm0 prog_82_method_4_code 2 (some .boolean) :: ws) xr35) (fun a U => a = #[(.ref bt), (.int dn)] ∧ Z.Warmed39 U.vm ∧ U.heap = h0) (fun _ _ _ _ _ => True) (fun _ U o U' => ∃ v L, o = .returned v ∧ Q_nit Z bt ar dp dn h0 n0 v U'.heap L ∧ FrameEnd U o U' L xr35.cells xr35.slots) := by
  refine MetFree.of_bodySF (plainFor_of_name pn_3) hisR ?_
  intro p e s m args below meth c s₁ Bd hml0 hP hK
  obtain ⟨rfl, hZ, hh⟩ := hP
  have hx := Bd.exec
  have hby := Bd.bytes
  have hlk : meth.locks = false := BodyLoose.notSynchronized Bd
  have hml : c.maxLocals = 2 := hml0
  have hown : s.vm.findClass xs18 = some m.cls := findClass_of_methodNamed Bd.named
  have hnm := (name_of_methodNamed Bd.named Bd.method).1
  have X0 : Stand p l e xr35 s m #[(.ref bt), (.int dn)] below meth c s₁ [] 0 0 := Stand.of_body Bd
  have e0 : s₁.heap = h0 := by rw [← hh, Bd.state]; rfl
  have N0 := Fr.nil n0
  show Go p e below s (Q_nit Z bt ar dp dn h0 n0) xr35.cells xr35.slots s₁ (entryFrame m #[(.ref bt), (.int dn)] 2)
  refine Go.cast (ef_nit m bt dn) ?_
  show Go p e below s _ _ _ s₁ (mkF m 0 #[vr bt, vi dn] [])
  refine Go.step (fun _ k => XS.aloadN X0.here hx rfl (hb hby d6_0) rfl rfl k) ?_
  show Go p e below s _ _ _ s₁ (mkF m 1 #[vr bt, vi dn] [(.ref bt)])
  obtain ⟨T108, X108, e108, st108⟩ := getF X0 hx hZ hown (host := "") (Or.inl (tw33 hw)) Via.refl e0 F_arrival_bt (g := (mkF m 1 #[vr bt, vi dn] [(.ref bt)])) rfl rfl (hb hby d6_1)
  refine Go.step (fun _ k => st108 _ (XS.iloadN X108.here hx rfl (hb hby d6_4) rfl k)) ?_
  show Go p e below s _ _ _ T108 (mkF m 5 #[vr bt, vi dn] [(.int dn), (.int ar)])
  by_cases hf1 : dn < ar
  · refine Go.step (fun _ k => XS.icmpYes X108.here hx rfl (pc0 := 5) (pc' := 20) rfl (hb hby d6_5) rfl (tlt hf1).2.2.1 (by decide) (by decide) (XS.iconst X108.here hx rfl (hb hby d6_20) k)) ?_
    show Go p e below s _ _ _ T108 (mkF m 21 #[vr bt, vi dn] [cv0])
    exact Go.retN X108 hx hlk (t := .boolean) Bd.returns (by simp) (hb hby d6_21) e108 ⟨own_nit0 hf1, N0, rfl⟩ (by decide) (by decide)
  · refine Go.step (fun _ k => XS.icmpNo X108.here hx rfl (hb hby d6_5) rfl (flt hf1).2.2.1 (XS.iloadN X108.here hx rfl (hb hby d6_8) rfl (XS.aloadN X108.here hx rfl (hb hby d6_9) rfl rfl k))) ?_
    show Go p e below s _ _ _ T108 (mkF m 10 #[vr bt, vi dn] [(.ref bt), (.int dn)])
    obtain ⟨T109, X109, e109, st109⟩ := getF X108 hx hZ hown (host := "") (Or.inl (tw35 hw)) Via.refl e108 F_departure_bt (g := (mkF m 10 #[vr bt, vi dn] [(.ref bt), (.int dn)])) rfl rfl (hb hby d6_10)
    refine Go.step (fun _ k => st109 _ k) ?_
    show Go p e below s _ _ _ T109 (mkF m 13 #[vr bt, vi dn] [(.int dp), (.int dn)])
    by_cases hf2 : dn < dp
    · refine Go.step (fun _ k => XS.icmpNo X109.here hx rfl (hb hby d6_13) rfl (tlt hf2).2.1 (XS.iconst X109.here hx rfl (hb hby d6_16) (XS.goto X109.here hx rfl (pc0 := 17) (pc' := 21) rfl (hb hby d6_17) (by decide) (by decide) k))) ?_
      show Go p e below s _ _ _ T109 (mkF m 21 #[vr bt, vi dn] [cv1])
      exact Go.retN X109 hx hlk (t := .boolean) Bd.returns (by simp) (hb hby d6_21) e109 ⟨own_nit1 hf1 hf2, N0, rfl⟩ (by decide) (by decide)
    · refine Go.step (fun _ k => XS.icmpYes X109.here hx rfl (pc0 := 13) (pc' := 20) rfl (hb hby d6_13) rfl (flt hf2).2.1 (by decide) (by decide) (XS.iconst X109.here hx rfl (hb hby d6_20) k)) ?_
      show Go p e below s _ _ _ T109 (mkF m 21 #[vr bt, vi dn] [cv0])
      exact Go.retN X109 hx hlk (t := .boolean) Bd.returns (by simp) (hb hby d6_21) e109 ⟨own_nit2 hf1 hf2, N0, rfl⟩ (by decide) (by decide)

theorem ef_Record_new_0 (m : MethodId) (x0 : Addr) : entryFrame m #[(.ref x0)] 1 = mkF m 0 #[vr x0] [] := by first | (simp [entryFrame, mkF, argsToLocals, Value.category]; done) | rfl
def Q_Record_new_0 (Z : State) (b113 : Addr) (h0 : Heap) (n0 : Nat) (v : Option Value) (h : Heap) (L : List Loc) : Prop := v = none ∧ Fr n0 L ∧ h = h0
set_option maxRecDepth 65536 in
set_option maxHeartbeats 40000000 in
theorem rm_Record_new_0 (l : Launch) (Z : State) (a0 : Array Value) (hw : ∀ d ∈ tables_1, d.before a0 Z = true) (ws : List Jvm.Cond) (b113 : Addr) (h0 : Heap) (n0 : Nat) (Z0 : n0 ≤ h0.size) :
    MetFree l xm10 (head1 (Jvm.Cond.code xm10 jdk_30_method_1_code 1 none :: ws) xr6) (fun a U => a = #[(.ref b113)] ∧ Z.Warmed39 U.vm ∧ U.heap = h0) (fun _ _ _ _ _ => True) (fun _ U o U' => ∃ v L, o = .returned v ∧ Q_Record_new_0 Z b113 h0 n0 v U'.heap L ∧ FrameEnd U o U' L xr6.cells xr6.slots) := by
  refine MetFree.of_bodySF (plainFor_of_name pn_4) hisR ?_
  intro p e s m args below meth c s₁ Bd hml0 hP hK
  obtain ⟨rfl, hZ, hh⟩ := hP
  have hx := Bd.exec
  have hby := Bd.bytes
  have hlk : meth.locks = false := BodyLoose.notSynchronized Bd
  have hml : c.maxLocals = 1 := hml0
  have hown : s.vm.findClass xs41 = some m.cls := findClass_of_methodNamed Bd.named
  have hnm := (name_of_methodNamed Bd.named Bd.method).1
  have X0 : Stand p l e xr6 s m #[(.ref b113)] below meth c s₁ [] 0 0 := Stand.of_body Bd
  have e0 : s₁.heap = h0 := by rw [← hh, Bd.state]; rfl
  have N0 := Fr.nil n0
  show Go p e below s (Q_Record_new_0 Z b113 h0 n0) xr6.cells xr6.slots s₁ (entryFrame m #[(.ref b113)] 1)
  refine Go.cast (ef_Record_new_0 m b113) ?_
  show Go p e below s _ _ _ s₁ (mkF m 0 #[vr b113] [])
  refine Go.step (fun _ k => XS.aloadN X0.here hx rfl (hb hby d8_0) rfl rfl k) ?_
  show Go p e below s _ _ _ s₁ (mkF m 1 #[vr b113] [(.ref b113)])
  obtain ⟨T117, X117, e117, st117⟩ := initO X0 hx hZ hown (tw15 hw) (tw16 hw) (tw17 hw) e0 (g := (mkF m 1 #[vr b113] [(.ref b113)])) rfl (by rw [hml]; rfl) rfl (hb hby d8_1) (by decide) (W := 0) (Nat.le_of_eq rfl) (by decide)
  refine Go.step (fun _ k => st117 _ k) ?_
  show Go p e below s _ _ _ T117 (mkF m 4 #[vr b113] [])
  exact Go.retV X117 hx hlk Bd.returns (hb hby d8_4) e117 ⟨rfl, N0, rfl⟩ (by decide) (by decide)

theorem ef_Trip_checkDays_0 (m : MethodId) (x0 : Int32) (x1 : Int32) : entryFrame m #[(.int x0), (.int x1)] 2 = mkF m 0 #[vi x0, vi x1] [] := by first | (simp [entryFrame, mkF, argsToLocals, Value.category]; done) | rfl
def Q_Trip_checkDays_0 (Z : State) (ar : Int32) (dp : Int32) (h0 : Heap) (n0 : Nat) (v : Option Value) (h : Heap) (L : List Loc) : Prop := v = none ∧ Fr n0 L ∧ h = h0
set_option maxRecDepth 65536 in
set_option maxHeartbeats 40000000 in
theorem rm_Trip_checkDays_0 (l : Launch) (Z : State) (a0 : Array Value) (hw : ∀ d ∈ tables_1, d.before a0 Z = true) (ws : List Jvm.Cond) (ar : Int32) (dp : Int32) (h0 : Heap) (n0 : Nat) (Z0 : n0 ≤ h0.size) (hc0 : ¬ ar < ci1) (hc1 : ¬ ci4 < ar) (hc2 : ar < dp) (hc3 : ¬ ci5 < dp) :
    MetFree l xm3 (head1 (Jvm.Cond.code xm3 prog_82_method_2_code 2 none :: ws) xr35) (fun a U => a = #[(.int ar), (.int dp)] ∧ Z.Warmed39 U.vm ∧ U.heap = h0) (fun _ _ _ _ _ => True) (fun _ U o U' => ∃ v L, o = .returned v ∧ Q_Trip_checkDays_0 Z ar dp h0 n0 v U'.heap L ∧ FrameEnd U o U' L xr35.cells xr35.slots) := by
  refine MetFree.of_bodySF (plainFor_of_name pn_3) hisR ?_
  intro p e s m args below meth c s₁ Bd hml0 hP hK
  obtain ⟨rfl, hZ, hh⟩ := hP
  have hx := Bd.exec
  have hby := Bd.bytes
  have hlk : meth.locks = false := BodyLoose.notSynchronized Bd
  have hml : c.maxLocals = 2 := hml0
  have hown : s.vm.findClass xs18 = some m.cls := findClass_of_methodNamed Bd.named
  have hnm := (name_of_methodNamed Bd.named Bd.method).1
  have X0 : Stand p l e xr35 s m #[(.int ar), (.int dp)] below meth c s₁ [] 0 0 := Stand.of_body Bd
  have e0 : s₁.heap = h0 := by rw [← hh, Bd.state]; rfl
  have N0 := Fr.nil n0
  show Go p e below s (Q_Trip_checkDays_0 Z ar dp h0 n0) xr35.cells xr35.slots s₁ (entryFrame m #[(.int ar), (.int dp)] 2)
  refine Go.cast (ef_Trip_checkDays_0 m ar dp) ?_
  show Go p e below s _ _ _ s₁ (mkF m 0 #[vi ar, vi dp] [])
  refine Go.step (fun _ k => XS.iloadN X0.here hx rfl (hb hby d9_0) rfl (XS.iconst X0.here hx rfl (hb hby d9_1) (XS.icmpNo X0.here hx rfl (hb hby d9_2) rfl (flt hc0).1 (XS.iloadN X0.here hx rfl (hb hby d9_5) rfl (XS.iconst X0.here hx rfl (hb hby d9_6) (XS.icmpYes X0.here hx rfl (pc0 := 7) (pc' := 24) rfl (hb hby d9_7) rfl (flt hc1).2.2.2 (by decide) (by decide) (XS.iloadN X0.here hx rfl (hb hby d9_24) rfl (XS.iloadN X0.here hx rfl (hb hby d9_25) rfl (XS.icmpNo X0.here hx rfl (hb hby d9_26) rfl (tlt hc2).2.2.2 (XS.iloadN X0.here hx rfl (hb hby d9_29) rfl k)))))))))) ?_
  show Go p e below s _ _ _ s₁ (mkF m 30 #[vi ar, vi dp] [(.int dp)])
  refine Go.step (fun _ k => XS.iconst X0.here hx rfl (hb hby d9_30) (XS.icmpYes X0.here hx rfl (pc0 := 31) (pc' := 51) rfl (hb hby d9_31) rfl (flt hc3).2.2.2 (by decide) (by decide) k)) ?_
  show Go p e below s _ _ _ s₁ (mkF m 51 #[vi ar, vi dp] [])
  exact Go.retV X0 hx hlk Bd.returns (hb hby d9_51) e0 ⟨rfl, N0, rfl⟩ (by decide) (by decide)

theorem ef_Objects_requireNonNull_0 (m : MethodId) (x0 : Addr) (x1 : Addr) : entryFrame m #[(.ref x0), (.ref x1)] 2 = mkF m 0 #[vr x0, vr x1] [] := by first | (simp [entryFrame, mkF, argsToLocals, Value.category]; done) | rfl
def Q_Objects_requireNonNull_0 (Z : State) (hot : Addr) (a122 : Addr) (h0 : Heap) (n0 : Nat) (v : Option Value) (h : Heap) (L : List Loc) : Prop := v = some (.ref hot) ∧ Fr n0 L ∧ h = h0
set_option maxRecDepth 65536 in
set_option maxHeartbeats 40000000 in
theorem rm_Objects_requireNonNull_0 (l : Launch) (Z : State) (a0 : Array Value) (hw : ∀ d ∈ tables_1, d.before a0 Z = true) (ws : List Jvm.Cond) (hot : Addr) (a122 : Addr) (h0 : Heap) (n0 : Nat) (Z0 : n0 ≤ h0.size) :
    MetFree l xm37 (head1 (Jvm.Cond.code xm37 jdk_31_method_11_code 2 (some (.object xs39)) :: ws) xr35) (fun a U => a = #[(.ref hot), (.ref a122)] ∧ Z.Warmed39 U.vm ∧ U.heap = h0) (fun _ _ _ _ _ => True) (fun _ U o U' => ∃ v L, o = .returned v ∧ Q_Objects_requireNonNull_0 Z hot a122 h0 n0 v U'.heap L ∧ FrameEnd U o U' L xr35.cells xr35.slots) := by
  refine MetFree.of_bodySF (plainFor_of_name pn_5) hisR ?_
  intro p e s m args below meth c s₁ Bd hml0 hP hK
  obtain ⟨rfl, hZ, hh⟩ := hP
  have hx := Bd.exec
  have hby := Bd.bytes
  have hlk : meth.locks = false := BodyLoose.notSynchronized Bd
  have hml : c.maxLocals = 2 := hml0
  have hown : s.vm.findClass xs38 = some m.cls := findClass_of_methodNamed Bd.named
  have hnm := (name_of_methodNamed Bd.named Bd.method).1
  have X0 : Stand p l e xr35 s m #[(.ref hot), (.ref a122)] below meth c s₁ [] 0 0 := Stand.of_body Bd
  have e0 : s₁.heap = h0 := by rw [← hh, Bd.state]; rfl
  have N0 := Fr.nil n0
  show Go p e below s (Q_Objects_requireNonNull_0 Z hot a122 h0 n0) xr35.cells xr35.slots s₁ (entryFrame m #[(.ref hot), (.ref a122)] 2)
  refine Go.cast (ef_Objects_requireNonNull_0 m hot a122) ?_
  show Go p e below s _ _ _ s₁ (mkF m 0 #[vr hot, vr a122] [])
  refine Go.step (fun _ k => XS.aloadN X0.here hx rfl (hb hby d10_0) rfl rfl (XS.ifnonnullYes X0.here hx rfl (pc0 := 1) (pc' := 13) rfl (hb hby d10_1) rfl (by decide) (by decide) (XS.aloadN X0.here hx rfl (hb hby d10_13) rfl rfl k))) ?_
  show Go p e below s _ _ _ s₁ (mkF m 14 #[vr hot, vr a122] [(.ref hot)])
  exact Go.retA X0 hx hlk Bd.returns rfl rfl (hb hby d10_14) e0 ⟨rfl, N0, rfl⟩ (by decide) (by decide)

theorem ef_Trip_new_0 (m : MethodId) (x0 : Addr) (x1 : Int32) (x2 : Int32) (x3 : Addr) : entryFrame m #[(.ref x0), (.int x1), (.int x2), (.ref x3)] 4 = mkF m 0 #[vr x0, vi x1, vi x2, vr x3] [] := by first | (simp [entryFrame, mkF, argsToLocals, Value.category]; done) | rfl
def Q_Trip_new_0 (Z : State) (b113 : Addr) (ar : Int32) (dp : Int32) (hot : Addr) (n126 : Int32) (n133 : Int32) (h0 : Heap) (n0 : Nat) (v : Option Value) (h : Heap) (L : List Loc) : Prop := v = none ∧ Fr n0 L ∧ Keep h0 h [b113] ∧ Fld Z h b113 xs18 "arrival" "I" (.int ar) ∧ Fld Z h b113 xs18 "departure" "I" (.int dp) ∧ Fld Z h b113 xs18 "hotel" xs13 (.ref hot)
set_option maxRecDepth 65536 in
set_option maxHeartbeats 40000000 in
theorem rm_Trip_new_0 (l : Launch) (Z : State) (a0 : Array Value) (hw : ∀ d ∈ tables_1, d.before a0 Z = true) (ws : List Jvm.Cond) (b113 : Addr) (ar : Int32) (dp : Int32) (hot : Addr) (n126 : Int32) (n133 : Int32) (h0 : Heap) (n0 : Nat) (Z0 : n0 ≤ h0.size) (E_b113 : Exa Z h0 b113 xs18) (hc0 : ¬ ar < ci1) (hc1 : ¬ ci4 < ar) (hc2 : ar < dp) (hc3 : ¬ ci5 < dp) (F_arrival_b113 : Fld Z h0 b113 xs18 "arrival" "I" (.int n126)) (g_b113 : n0 ≤ b113) (F_departure_b113 : Fld Z h0 b113 xs18 "departure" "I" (.int n133)) (F_hotel_b113 : Fld Z h0 b113 xs18 "hotel" xs13 .null) :
    MetFree l xm21 (head1 (Jvm.Cond.code xm21 prog_82_method_1_code 4 none :: ws) xr3) (fun a U => a = #[(.ref b113), (.int ar), (.int dp), (.ref hot)] ∧ Z.Warmed39 U.vm ∧ U.heap = h0) (fun _ _ _ _ _ => True) (fun _ U o U' => ∃ v L, o = .returned v ∧ Q_Trip_new_0 Z b113 ar dp hot n126 n133 h0 n0 v U'.heap L ∧ ReturnedEndW U o U' L xr3.cells xr3.slots) := by
  refine MetFree.of_bodySF (plainFor_of_name pn_3) hisR ?_
  intro p e s m args below meth c s₁ Bd hml0 hP hK
  obtain ⟨rfl, hZ, hh⟩ := hP
  have hx := Bd.exec
  have hby := Bd.bytes
  have hlk : meth.locks = false := BodyLoose.notSynchronized Bd
  have hml : c.maxLocals = 4 := hml0
  have hown : s.vm.findClass xs18 = some m.cls := findClass_of_methodNamed Bd.named
  have hnm := (name_of_methodNamed Bd.named Bd.method).1
  have X0 : Stand p l e xr3 (s.setVm s.vm) m #[(.ref b113), (.int ar), (.int dp), (.ref hot)] below meth c s₁ [] 0 0 := Stand.of_body Bd
  have e0 : s₁.heap = h0 := by rw [← hh, Bd.state]; rfl
  have N0 := Fr.nil n0
  have hS0 : s.Since s.vm h0.size := (State.WarmedH.refl s).since _
  show GoW p e below s (Q_Trip_new_0 Z b113 ar dp hot n126 n133 h0 n0) xr3.cells xr3.slots s₁ (entryFrame m #[(.ref b113), (.int ar), (.int dp), (.ref hot)] 4)
  refine GoW.cast (ef_Trip_new_0 m b113 ar dp hot) ?_
  show GoW p e below s _ _ _ s₁ (mkF m 0 #[vr b113, vi ar, vi dp, vr hot] [])
  refine GoW.step (fun _ k => XS.aloadN X0.here hx rfl (hb hby d7_0) rfl rfl k) ?_
  show GoW p e below s _ _ _ s₁ (mkF m 1 #[vr b113, vi ar, vi dp, vr hot] [(.ref b113)])
  obtain ⟨_, _, ⟨T118, L118, k118, n118⟩, -, X118, ⟨Lc118, hQ118, l118, y118, z118⟩, st118⟩ := X0.specialBack hx (y := xm10) rfl hown (mvT hZ (tw10 hw)) (mvT hZ (tw11 hw)) (mvT hZ (tw14 hw)) (by decide) (backOf (W := 0) (rm_Record_new_0 l Z a0 hw [] b113 h0 n0 Z0) hZ (tw14 hw) (tw13 hw) (by decide) (by decide)) (g := (mkF m 1 #[vr b113, vi ar, vi dp, vr hot] [(.ref b113)])) rfl (by rw [hml]; rfl) (Steps.refl _) (a := b113) (argsL := []) (rest := []) (lenOf pd_3 rfl) rfl (Nat.le_of_eq rfl) (hb hby d7_1) (fun _ _ => ⟨rfl, e0, (by decide : 0 + 0 ≤ _), (by decide : 0 + 0 ≤ _)⟩)
  dsimp only [Pt.U, Pt.locs, Pt.cells, Pt.slots] at X118 l118 y118 z118 st118 hQ118
  subst l118 y118 z118
  obtain ⟨rfl, N118q, eq118⟩ := hQ118
  have N119 := Fr.app N0 N118q
  refine GoW.step (fun _ k => st118.trans (XS.iloadN X118.here hx rfl (hb hby d7_4) rfl (XS.iloadN X118.here hx rfl (hb hby d7_5) rfl k))) ?_
  show GoW p e below s _ _ _ T118 (mkF m 6 #[vr b113, vi ar, vi dp, vr hot] [(.int dp), (.int ar)])
  obtain ⟨_, _, ⟨T120, L120, k120, n120⟩, -, X120, ⟨Lc120, hQ120, l120, y120, z120⟩, st120⟩ := Jvm.LawKit.callS X118 hx (y := xm3) hown (mvT hZ (tw18 hw)) (mvT hZ (tw19 hw)) (mvT hZ (tw6 hw)) (mvT hZ (tw20 hw)) (by decide) (backOf (W := 0) (rm_Trip_checkDays_0 l Z a0 hw [] ar dp h0 n0 Z0 hc0 hc1 hc2 hc3) hZ (tw20 hw) (tw6 hw) (by decide) (by decide)) (g := (mkF m 6 #[vr b113, vi ar, vi dp, vr hot] [(.int dp), (.int ar)])) rfl (by rw [hml]; rfl) (argsL := [(.int ar), (.int dp)]) (rest := []) (lenOf pd_4 rfl) rfl (Nat.le_of_eq rfl) (hb hby d7_6) (fun _ _ => ⟨rfl, eq118, (by decide : 0 + 0 ≤ _), (by decide : 0 + 0 ≤ _)⟩)
  dsimp only [Pt.U, Pt.locs, Pt.cells, Pt.slots] at X120 l120 y120 z120 st120 hQ120
  subst l120 y120 z120
  obtain ⟨rfl, N120q, eq120⟩ := hQ120
  have N121 := Fr.app N119 N120q
  refine GoW.step (fun _ k => st120 _ (XS.aloadN X120.here hx rfl (hb hby d7_9) rfl rfl k)) ?_
  show GoW p e below s _ _ _ T120 (mkF m 10 #[vr b113, vi ar, vi dp, vr hot] [(.ref hot)])
  obtain ⟨a122, T122, h122, k122, X122, e122, E122, hS122, hk122, hZ122, hown122, st122⟩ := ldcS X120 hx hZ hown (tw21 hw) (own_wS hw) eq120 hS0 (Nat.le_refl _) (g := (mkF m 10 #[vr b113, vi ar, vi dp, vr hot] [(.ref hot)])) rfl (hb hby d7_10) (n := 20) (by decide) (by decide) (by decide) (by decide)
  refine GoW.step (fun _ k => st122 _ k) ?_
  show GoW p e below s _ _ _ T122 (mkF m 12 #[vr b113, vi ar, vi dp, vr hot] [(.ref a122), (.ref hot)])
  have f123 := (Nat.le_trans Z0 E122.1)
  obtain ⟨_, _, ⟨T124, L124, k124, n124⟩, -, X124, ⟨Lc124, hQ124, l124, y124, z124⟩, st124⟩ := Jvm.LawKit.callS X122 hx (y := xm37) hown122 (mvT hZ122 (tw29 hw)) (mvT hZ122 (tw30 hw)) (mvT hZ122 (tw31 hw)) (mvT hZ122 (tw32 hw)) (by decide) (backOf (W := 0) (rm_Objects_requireNonNull_0 l Z a0 hw [] hot a122 h122 n0 f123) hZ122 (tw32 hw) (tw31 hw) (by decide) (by decide)) (g := (mkF m 12 #[vr b113, vi ar, vi dp, vr hot] [(.ref a122), (.ref hot)])) rfl (by rw [hml]; rfl) (argsL := [(.ref hot), (.ref a122)]) (rest := []) (lenOf pd_5 rfl) rfl (Nat.le_of_eq rfl) (hb hby d7_12) (fun _ _ => ⟨rfl, e122, (by decide : 2 + 0 ≤ _), (by decide : 24 + 0 ≤ _)⟩)
  dsimp only [Pt.U, Pt.locs, Pt.cells, Pt.slots] at X124 l124 y124 z124 st124 hQ124
  subst l124 y124 z124
  obtain ⟨rfl, N124q, eq124⟩ := hQ124
  have N125 := Fr.app N121 N124q
  refine GoW.step (fun _ k => st124 _ (XS.pop X124.here hx rfl (hb hby d7_15) rfl rfl (XS.aloadN X124.here hx rfl (hb hby d7_16) rfl rfl (XS.iloadN X124.here hx rfl (hb hby d7_17) rfl k)))) ?_
  show GoW p e below s _ _ _ T124 (mkF m 18 #[vr b113, vi ar, vi dp, vr hot] [(.int ar), (.ref b113)])
  have f127 := (F_arrival_b113.ext E122)
  have f128 := (E_b113.ext E122)
  obtain ⟨T129, h129, X129, e129, W129, st129⟩ := putF X124 hx hZ122 hown122 (host := "") (Or.inl (tw33 hw)) Via.refl eq124 f127 f128 (Or.inr ⟨(tw34 hw), rfl, hnm⟩) (tw5 hw) (ty := .int) (by decide) rfl rfl (g := (mkF m 18 #[vr b113, vi ar, vi dp, vr hot] [(.int ar), (.ref b113)])) rfl rfl (hb hby d7_18)
  have f131 := f127.same W129
  have N132 := Fr.snoc X129 N125 g_b113
  refine GoW.step (fun _ k => st129 _ (XS.aloadN X129.here hx rfl (hb hby d7_21) rfl rfl (XS.iloadN X129.here hx rfl (hb hby d7_22) rfl k))) ?_
  show GoW p e below s _ _ _ T129 (mkF m 23 #[vr b113, vi ar, vi dp, vr hot] [(.int dp), (.ref b113)])
  have f134 := ((F_departure_b113.ext E122).other W129 (Or.inr (slot_ne (Or.inr (tw36 hw)) (Or.inr (tw34 hw)) (by decide) (t := .int) (t' := .int) (by decide) (by decide))))
  have f135 := (f128.wr W129)
  obtain ⟨T136, h136, X136, e136, W136, st136⟩ := putF X129 hx hZ122 hown122 (host := "") (Or.inl (tw35 hw)) Via.refl e129 f134 f135 (Or.inr ⟨(tw36 hw), rfl, hnm⟩) (tw5 hw) (ty := .int) (by decide) rfl rfl (g := (mkF m 23 #[vr b113, vi ar, vi dp, vr hot] [(.int dp), (.ref b113)])) rfl rfl (hb hby d7_23)
  have f137 := f134.same W136
  have N138 := Fr.snoc X136 N132 g_b113
  refine GoW.step (fun _ k => st136 _ (XS.aloadN X136.here hx rfl (hb hby d7_26) rfl rfl (XS.aloadN X136.here hx rfl (hb hby d7_27) rfl rfl k))) ?_
  show GoW p e below s _ _ _ T136 (mkF m 28 #[vr b113, vi ar, vi dp, vr hot] [(.ref hot), (.ref b113)])
  have f139 := (((F_hotel_b113.ext E122).other W129 (Or.inr (slot_ne (Or.inr (tw38 hw)) (Or.inr (tw34 hw)) (by decide) (t := (.object xs16)) (t' := .int) (by decide) (by decide)))).other W136 (Or.inr (slot_ne (Or.inr (tw38 hw)) (Or.inr (tw36 hw)) (by decide) (t := (.object xs16)) (t' := .int) (by decide) (by decide))))
  have f140 := (f135.wr W136)
  obtain ⟨T141, h141, X141, e141, W141, st141⟩ := putF X136 hx hZ122 hown122 (host := "") (Or.inl (tw37 hw)) Via.refl e136 f139 f140 (Or.inr ⟨(tw38 hw), rfl, hnm⟩) (tw5 hw) (ty := (.object xs16)) (by decide) rfl rfl (g := (mkF m 28 #[vr b113, vi ar, vi dp, vr hot] [(.ref hot), (.ref b113)])) rfl rfl (hb hby d7_28)
  have f142 := f139.same W141
  have N143 := Fr.snoc X141 N138 g_b113
  refine GoW.step (fun _ k => st141 _ k) ?_
  show GoW p e below s _ _ _ T141 (mkF m 31 #[vr b113, vi ar, vi dp, vr hot] [])
  have f144 := (((((Keep.refl h0 [b113]).ext E122).wr W129 (Or.inl (List.mem_of_getElem? (i := 0) rfl))).wr W136 (Or.inl (List.mem_of_getElem? (i := 0) rfl))).wr W141 (Or.inl (List.mem_of_getElem? (i := 0) rfl)))
  have f145 := ((f131.other W136 (Or.inr (slot_ne (Or.inr (tw34 hw)) (Or.inr (tw36 hw)) (by decide) (t := .int) (t' := .int) (by decide) (by decide)))).other W141 (Or.inr (slot_ne (Or.inr (tw34 hw)) (Or.inr (tw38 hw)) (by decide) (t := .int) (t' := (.object xs16)) (by decide) (by decide))))
  have f146 := (f137.other W141 (Or.inr (slot_ne (Or.inr (tw36 hw)) (Or.inr (tw38 hw)) (by decide) (t := .int) (t' := (.object xs16)) (by decide) (by decide))))
  have f147 := (Nat.le_trans (Nat.le_trans (Nat.le_trans hk122 (Keep.of_wr W129).1) (Keep.of_wr W136).1) (Keep.of_wr W141).1)
  exact GoW.retV X141 hS122 hx hlk Bd.returns (hb hby d7_31) e141 f147 ⟨rfl, N143, f144, f145, f146, f142⟩ (by decide) (by decide)

theorem ef_AbstractCollection_new_0 (m : MethodId) (x0 : Addr) : entryFrame m #[(.ref x0)] 1 = mkF m 0 #[vr x0] [] := by first | (simp [entryFrame, mkF, argsToLocals, Value.category]; done) | rfl
def Q_AbstractCollection_new_0 (Z : State) (b181 : Addr) (h0 : Heap) (n0 : Nat) (v : Option Value) (h : Heap) (L : List Loc) : Prop := v = none ∧ Fr n0 L ∧ h = h0
set_option maxRecDepth 65536 in
set_option maxHeartbeats 40000000 in
theorem rm_AbstractCollection_new_0 (l : Launch) (Z : State) (a0 : Array Value) (hw : ∀ d ∈ tables_1, d.before a0 Z = true) (ws : List Jvm.Cond) (b181 : Addr) (h0 : Heap) (n0 : Nat) (Z0 : n0 ≤ h0.size) :
    MetFree l xm11 (head1 (Jvm.Cond.code xm11 jdk_22_method_1_code 1 none :: ws) xr6) (fun a U => a = #[(.ref b181)] ∧ Z.Warmed39 U.vm ∧ U.heap = h0) (fun _ _ _ _ _ => True) (fun _ U o U' => ∃ v L, o = .returned v ∧ Q_AbstractCollection_new_0 Z b181 h0 n0 v U'.heap L ∧ FrameEnd U o U' L xr6.cells xr6.slots) := by
  refine MetFree.of_bodySF (plainFor_of_name pn_6) hisR ?_
  intro p e s m args below meth c s₁ Bd hml0 hP hK
  obtain ⟨rfl, hZ, hh⟩ := hP
  have hx := Bd.exec
  have hby := Bd.bytes
  have hlk : meth.locks = false := BodyLoose.notSynchronized Bd
  have hml : c.maxLocals = 1 := hml0
  have hown : s.vm.findClass xs27 = some m.cls := findClass_of_methodNamed Bd.named
  have hnm := (name_of_methodNamed Bd.named Bd.method).1
  have X0 : Stand p l e xr6 s m #[(.ref b181)] below meth c s₁ [] 0 0 := Stand.of_body Bd
  have e0 : s₁.heap = h0 := by rw [← hh, Bd.state]; rfl
  have N0 := Fr.nil n0
  show Go p e below s (Q_AbstractCollection_new_0 Z b181 h0 n0) xr6.cells xr6.slots s₁ (entryFrame m #[(.ref b181)] 1)
  refine Go.cast (ef_AbstractCollection_new_0 m b181) ?_
  show Go p e below s _ _ _ s₁ (mkF m 0 #[vr b181] [])
  refine Go.step (fun _ k => XS.aloadN X0.here hx rfl (hb hby d16_0) rfl rfl k) ?_
  show Go p e below s _ _ _ s₁ (mkF m 1 #[vr b181] [(.ref b181)])
  obtain ⟨T184, X184, e184, st184⟩ := initO X0 hx hZ hown (tw123 hw) (tw16 hw) (tw17 hw) e0 (g := (mkF m 1 #[vr b181] [(.ref b181)])) rfl (by rw [hml]; rfl) rfl (hb hby d16_1) (by decide) (W := 0) (Nat.le_of_eq rfl) (by decide)
  refine Go.step (fun _ k => st184 _ k) ?_
  show Go p e below s _ _ _ T184 (mkF m 4 #[vr b181] [])
  exact Go.retV X184 hx hlk Bd.returns (hb hby d16_4) e184 ⟨rfl, N0, rfl⟩ (by decide) (by decide)

theorem ef_ImmutableCollections_AbstractImmutableCollection_new_0 (m : MethodId) (x0 : Addr) : entryFrame m #[(.ref x0)] 1 = mkF m 0 #[vr x0] [] := by first | (simp [entryFrame, mkF, argsToLocals, Value.category]; done) | rfl
def Q_ImmutableCollections_AbstractImmutableCollection_new_0 (Z : State) (b181 : Addr) (h0 : Heap) (n0 : Nat) (v : Option Value) (h : Heap) (L : List Loc) : Prop := v = none ∧ Fr n0 L ∧ h = h0
set_option maxRecDepth 65536 in
set_option maxHeartbeats 40000000 in
theorem rm_ImmutableCollections_AbstractImmutableCollection_new_0 (l : Launch) (Z : State) (a0 : Array Value) (hw : ∀ d ∈ tables_1, d.before a0 Z = true) (ws : List Jvm.Cond) (b181 : Addr) (h0 : Heap) (n0 : Nat) (Z0 : n0 ≤ h0.size) (E_b181 : Exa Z h0 b181 xs21) :
    MetFree l xm14 (head1 (Jvm.Cond.code xm14 jdk_47_method_1_code 1 none :: ws) xr7) (fun a U => a = #[(.ref b181)] ∧ Z.Warmed39 U.vm ∧ U.heap = h0) (fun _ _ _ _ _ => True) (fun _ U o U' => ∃ v L, o = .returned v ∧ Q_ImmutableCollections_AbstractImmutableCollection_new_0 Z b181 h0 n0 v U'.heap L ∧ FrameEnd U o U' L xr7.cells xr7.slots) := by
  refine MetFree.of_bodySF (plainFor_of_name pn_7) hisR ?_
  intro p e s m args below meth c s₁ Bd hml0 hP hK
  obtain ⟨rfl, hZ, hh⟩ := hP
  have hx := Bd.exec
  have hby := Bd.bytes
  have hlk : meth.locks = false := BodyLoose.notSynchronized Bd
  have hml : c.maxLocals = 1 := hml0
  have hown : s.vm.findClass xs3 = some m.cls := findClass_of_methodNamed Bd.named
  have hnm := (name_of_methodNamed Bd.named Bd.method).1
  have X0 : Stand p l e xr7 s m #[(.ref b181)] below meth c s₁ [] 0 0 := Stand.of_body Bd
  have e0 : s₁.heap = h0 := by rw [← hh, Bd.state]; rfl
  have N0 := Fr.nil n0
  show Go p e below s (Q_ImmutableCollections_AbstractImmutableCollection_new_0 Z b181 h0 n0) xr7.cells xr7.slots s₁ (entryFrame m #[(.ref b181)] 1)
  refine Go.cast (ef_ImmutableCollections_AbstractImmutableCollection_new_0 m b181) ?_
  show Go p e below s _ _ _ s₁ (mkF m 0 #[vr b181] [])
  refine Go.step (fun _ k => XS.aloadN X0.here hx rfl (hb hby d15_0) rfl rfl k) ?_
  show Go p e below s _ _ _ s₁ (mkF m 1 #[vr b181] [(.ref b181)])
  obtain ⟨_, _, ⟨T185, L185, k185, n185⟩, -, X185, ⟨Lc185, hQ185, l185, y185, z185⟩, st185⟩ := X0.specialBack hx (y := xm11) rfl hown (mvT hZ (tw117 hw)) (mvT hZ (tw118 hw)) (mvT hZ (tw122 hw)) (by decide) (backOf (W := 0) (rm_AbstractCollection_new_0 l Z a0 hw [] b181 h0 n0 Z0) hZ (tw122 hw) (tw121 hw) (by decide) (by decide)) (g := (mkF m 1 #[vr b181] [(.ref b181)])) rfl (by rw [hml]; rfl) (Steps.refl _) (a := b181) (argsL := []) (rest := []) (lenOf pd_3 rfl) rfl (Nat.le_of_eq rfl) (hb hby d15_1) (fun _ _ => ⟨rfl, e0, (by decide : 0 + 0 ≤ _), (by decide : 0 + 0 ≤ _)⟩)
  dsimp only [Pt.U, Pt.locs, Pt.cells, Pt.slots] at X185 l185 y185 z185 st185 hQ185
  subst l185 y185 z185
  obtain ⟨rfl, N185q, eq185⟩ := hQ185
  have N186 := Fr.app N0 N185q
  refine Go.step (fun _ k => st185.trans k) ?_
  show Go p e below s _ _ _ T185 (mkF m 4 #[vr b181] [])
  exact Go.retV X185 hx hlk Bd.returns (hb hby d15_4) eq185 ⟨rfl, N186, rfl⟩ (by decide) (by decide)

theorem ef_ImmutableCollections_AbstractImmutableList_new_0 (m : MethodId) (x0 : Addr) : entryFrame m #[(.ref x0)] 1 = mkF m 0 #[vr x0] [] := by first | (simp [entryFrame, mkF, argsToLocals, Value.category]; done) | rfl
def Q_ImmutableCollections_AbstractImmutableList_new_0 (Z : State) (b181 : Addr) (h0 : Heap) (n0 : Nat) (v : Option Value) (h : Heap) (L : List Loc) : Prop := v = none ∧ Fr n0 L ∧ h = h0
set_option maxRecDepth 65536 in
set_option maxHeartbeats 40000000 in
theorem rm_ImmutableCollections_AbstractImmutableList_new_0 (l : Launch) (Z : State) (a0 : Array Value) (hw : ∀ d ∈ tables_1, d.before a0 Z = true) (ws : List Jvm.Cond) (b181 : Addr) (h0 : Heap) (n0 : Nat) (Z0 : n0 ≤ h0.size) (E_b181 : Exa Z h0 b181 xs21) :
    MetFree l xm15 (head1 (Jvm.Cond.code xm15 jdk_46_method_1_code 1 none :: ws) xr8) (fun a U => a = #[(.ref b181)] ∧ Z.Warmed39 U.vm ∧ U.heap = h0) (fun _ _ _ _ _ => True) (fun _ U o U' => ∃ v L, o = .returned v ∧ Q_ImmutableCollections_AbstractImmutableList_new_0 Z b181 h0 n0 v U'.heap L ∧ FrameEnd U o U' L xr8.cells xr8.slots) := by
  refine MetFree.of_bodySF (plainFor_of_name pn_8) hisR ?_
  intro p e s m args below meth c s₁ Bd hml0 hP hK
  obtain ⟨rfl, hZ, hh⟩ := hP
  have hx := Bd.exec
  have hby := Bd.bytes
  have hlk : meth.locks = false := BodyLoose.notSynchronized Bd
  have hml : c.maxLocals = 1 := hml0
  have hown : s.vm.findClass xs8 = some m.cls := findClass_of_methodNamed Bd.named
  have hnm := (name_of_methodNamed Bd.named Bd.method).1
  have X0 : Stand p l e xr8 s m #[(.ref b181)] below meth c s₁ [] 0 0 := Stand.of_body Bd
  have e0 : s₁.heap = h0 := by rw [← hh, Bd.state]; rfl
  have N0 := Fr.nil n0
  show Go p e below s (Q_ImmutableCollections_AbstractImmutableList_new_0 Z b181 h0 n0) xr8.cells xr8.slots s₁ (entryFrame m #[(.ref b181)] 1)
  refine Go.cast (ef_ImmutableCollections_AbstractImmutableList_new_0 m b181) ?_
  show Go p e below s _ _ _ s₁ (mkF m 0 #[vr b181] [])
  refine Go.step (fun _ k => XS.aloadN X0.here hx rfl (hb hby d14_0) rfl rfl k) ?_
  show Go p e below s _ _ _ s₁ (mkF m 1 #[vr b181] [(.ref b181)])
  obtain ⟨_, _, ⟨T187, L187, k187, n187⟩, -, X187, ⟨Lc187, hQ187, l187, y187, z187⟩, st187⟩ := X0.specialBack hx (y := xm14) rfl hown (mvT hZ (tw111 hw)) (mvT hZ (tw112 hw)) (mvT hZ (tw116 hw)) (by decide) (backOf (W := 0) (rm_ImmutableCollections_AbstractImmutableCollection_new_0 l Z a0 hw [] b181 h0 n0 Z0 E_b181) hZ (tw116 hw) (tw115 hw) (by decide) (by decide)) (g := (mkF m 1 #[vr b181] [(.ref b181)])) rfl (by rw [hml]; rfl) (Steps.refl _) (a := b181) (argsL := []) (rest := []) (lenOf pd_3 rfl) rfl (Nat.le_of_eq rfl) (hb hby d14_1) (fun _ _ => ⟨rfl, e0, (by decide : 0 + 0 ≤ _), (by decide : 0 + 0 ≤ _)⟩)
  dsimp only [Pt.U, Pt.locs, Pt.cells, Pt.slots] at X187 l187 y187 z187 st187 hQ187
  subst l187 y187 z187
  obtain ⟨rfl, N187q, eq187⟩ := hQ187
  have N188 := Fr.app N0 N187q
  refine Go.step (fun _ k => st187.trans k) ?_
  show Go p e below s _ _ _ T187 (mkF m 4 #[vr b181] [])
  exact Go.retV X187 hx hlk Bd.returns (hb hby d14_4) eq187 ⟨rfl, N188, rfl⟩ (by decide) (by decide)

theorem ef_Objects_requireNonNull_1 (m : MethodId) (x0 : Addr) : entryFrame m #[(.ref x0)] 1 = mkF m 0 #[vr x0] [] := by first | (simp [entryFrame, mkF, argsToLocals, Value.category]; done) | rfl
def Q_Objects_requireNonNull_1 (Z : State) (x167 : Addr) (h0 : Heap) (n0 : Nat) (v : Option Value) (h : Heap) (L : List Loc) : Prop := v = some (.ref x167) ∧ Fr n0 L ∧ h = h0
set_option maxRecDepth 65536 in
set_option maxHeartbeats 40000000 in
theorem rm_Objects_requireNonNull_1 (l : Launch) (Z : State) (a0 : Array Value) (hw : ∀ d ∈ tables_1, d.before a0 Z = true) (ws : List Jvm.Cond) (x167 : Addr) (h0 : Heap) (n0 : Nat) (Z0 : n0 ≤ h0.size) :
    MetFree l xm35 (head1 (Jvm.Cond.code xm35 jdk_31_method_10_code 1 (some (.object xs39)) :: ws) xr35) (fun a U => a = #[(.ref x167)] ∧ Z.Warmed39 U.vm ∧ U.heap = h0) (fun _ _ _ _ _ => True) (fun _ U o U' => ∃ v L, o = .returned v ∧ Q_Objects_requireNonNull_1 Z x167 h0 n0 v U'.heap L ∧ FrameEnd U o U' L xr35.cells xr35.slots) := by
  refine MetFree.of_bodySF (plainFor_of_name pn_5) hisR ?_
  intro p e s m args below meth c s₁ Bd hml0 hP hK
  obtain ⟨rfl, hZ, hh⟩ := hP
  have hx := Bd.exec
  have hby := Bd.bytes
  have hlk : meth.locks = false := BodyLoose.notSynchronized Bd
  have hml : c.maxLocals = 1 := hml0
  have hown : s.vm.findClass xs38 = some m.cls := findClass_of_methodNamed Bd.named
  have hnm := (name_of_methodNamed Bd.named Bd.method).1
  have X0 : Stand p l e xr35 s m #[(.ref x167)] below meth c s₁ [] 0 0 := Stand.of_body Bd
  have e0 : s₁.heap = h0 := by rw [← hh, Bd.state]; rfl
  have N0 := Fr.nil n0
  show Go p e below s (Q_Objects_requireNonNull_1 Z x167 h0 n0) xr35.cells xr35.slots s₁ (entryFrame m #[(.ref x167)] 1)
  refine Go.cast (ef_Objects_requireNonNull_1 m x167) ?_
  show Go p e below s _ _ _ s₁ (mkF m 0 #[vr x167] [])
  refine Go.step (fun _ k => XS.aloadN X0.here hx rfl (hb hby d17_0) rfl rfl (XS.ifnonnullYes X0.here hx rfl (pc0 := 1) (pc' := 12) rfl (hb hby d17_1) rfl (by decide) (by decide) (XS.aloadN X0.here hx rfl (hb hby d17_12) rfl rfl k))) ?_
  show Go p e below s _ _ _ s₁ (mkF m 13 #[vr x167] [(.ref x167)])
  exact Go.retA X0 hx hlk Bd.returns rfl rfl (hb hby d17_13) e0 ⟨rfl, N0, rfl⟩ (by decide) (by decide)

theorem ef_ImmutableCollections_List12_new_0 (m : MethodId) (x0 : Addr) (x1 : Addr) (x2 : Addr) : entryFrame m #[(.ref x0), (.ref x1), (.ref x2)] 3 = mkF m 0 #[vr x0, vr x1, vr x2] [] := by first | (simp [entryFrame, mkF, argsToLocals, Value.category]; done) | rfl
def Q_ImmutableCollections_List12_new_0 (Z : State) (b181 : Addr) (x167 : Addr) (x176 : Addr) (h0 : Heap) (n0 : Nat) (v : Option Value) (h : Heap) (L : List Loc) : Prop := v = none ∧ Fr n0 L ∧ Keep h0 h [b181] ∧ Fld Z h b181 xs21 "e0" xs36 (.ref x167) ∧ Fld Z h b181 xs21 "e1" xs36 (.ref x176)
set_option maxRecDepth 65536 in
set_option maxHeartbeats 40000000 in
theorem rm_ImmutableCollections_List12_new_0 (l : Launch) (Z : State) (a0 : Array Value) (hw : ∀ d ∈ tables_1, d.before a0 Z = true) (ws : List Jvm.Cond) (b181 : Addr) (x167 : Addr) (x176 : Addr) (h0 : Heap) (n0 : Nat) (Z0 : n0 ≤ h0.size) (E_b181 : Exa Z h0 b181 xs21) (F_e0_b181 : Fld Z h0 b181 xs21 "e0" xs36 .null) (g_b181 : n0 ≤ b181) (F_e1_b181 : Fld Z h0 b181 xs21 "e1" xs36 .null) :
    MetFree l xm16 (head1 (Jvm.Cond.code xm16 jdk_44_method_2_code 3 none :: ws) xr9) (fun a U => a = #[(.ref b181), (.ref x167), (.ref x176)] ∧ Z.Warmed39 U.vm ∧ U.heap = h0) (fun _ _ _ _ _ => True) (fun _ U o U' => ∃ v L, o = .returned v ∧ Q_ImmutableCollections_List12_new_0 Z b181 x167 x176 h0 n0 v U'.heap L ∧ FrameEnd U o U' L xr9.cells xr9.slots) := by
  refine MetFree.of_bodySF (plainFor_of_name pn_9) hisR ?_
  intro p e s m args below meth c s₁ Bd hml0 hP hK
  obtain ⟨rfl, hZ, hh⟩ := hP
  have hx := Bd.exec
  have hby := Bd.bytes
  have hlk : meth.locks = false := BodyLoose.notSynchronized Bd
  have hml : c.maxLocals = 3 := hml0
  have hown : s.vm.findClass xs21 = some m.cls := findClass_of_methodNamed Bd.named
  have hnm := (name_of_methodNamed Bd.named Bd.method).1
  have X0 : Stand p l e xr9 s m #[(.ref b181), (.ref x167), (.ref x176)] below meth c s₁ [] 0 0 := Stand.of_body Bd
  have e0 : s₁.heap = h0 := by rw [← hh, Bd.state]; rfl
  have N0 := Fr.nil n0
  show Go p e below s (Q_ImmutableCollections_List12_new_0 Z b181 x167 x176 h0 n0) xr9.cells xr9.slots s₁ (entryFrame m #[(.ref b181), (.ref x167), (.ref x176)] 3)
  refine Go.cast (ef_ImmutableCollections_List12_new_0 m b181 x167 x176) ?_
  show Go p e below s _ _ _ s₁ (mkF m 0 #[vr b181, vr x167, vr x176] [])
  refine Go.step (fun _ k => XS.aloadN X0.here hx rfl (hb hby d13_0) rfl rfl k) ?_
  show Go p e below s _ _ _ s₁ (mkF m 1 #[vr b181, vr x167, vr x176] [(.ref b181)])
  obtain ⟨_, _, ⟨T189, L189, k189, n189⟩, -, X189, ⟨Lc189, hQ189, l189, y189, z189⟩, st189⟩ := X0.specialBack hx (y := xm15) rfl hown (mvT hZ (tw105 hw)) (mvT hZ (tw106 hw)) (mvT hZ (tw110 hw)) (by decide) (backOf (W := 0) (rm_ImmutableCollections_AbstractImmutableList_new_0 l Z a0 hw [] b181 h0 n0 Z0 E_b181) hZ (tw110 hw) (tw109 hw) (by decide) (by decide)) (g := (mkF m 1 #[vr b181, vr x167, vr x176] [(.ref b181)])) rfl (by rw [hml]; rfl) (Steps.refl _) (a := b181) (argsL := []) (rest := []) (lenOf pd_3 rfl) rfl (Nat.le_of_eq rfl) (hb hby d13_1) (fun _ _ => ⟨rfl, e0, (by decide : 0 + 0 ≤ _), (by decide : 0 + 0 ≤ _)⟩)
  dsimp only [Pt.U, Pt.locs, Pt.cells, Pt.slots] at X189 l189 y189 z189 st189 hQ189
  subst l189 y189 z189
  obtain ⟨rfl, N189q, eq189⟩ := hQ189
  have N190 := Fr.app N0 N189q
  refine Go.step (fun _ k => st189.trans (XS.aloadN X189.here hx rfl (hb hby d13_4) rfl rfl (XS.aloadN X189.here hx rfl (hb hby d13_5) rfl rfl k))) ?_
  show Go p e below s _ _ _ T189 (mkF m 6 #[vr b181, vr x167, vr x176] [(.ref x167), (.ref b181)])
  obtain ⟨_, _, ⟨T191, L191, k191, n191⟩, -, X191, ⟨Lc191, hQ191, l191, y191, z191⟩, st191⟩ := Jvm.LawKit.callS X189 hx (y := xm35) hown (mvT hZ (tw124 hw)) (mvT hZ (tw125 hw)) (mvT hZ (tw31 hw)) (mvT hZ (tw126 hw)) (by decide) (backOf (W := 1) (rm_Objects_requireNonNull_1 l Z a0 hw [] x167 h0 n0 Z0) hZ (tw126 hw) (tw31 hw) (by decide) (by decide)) (g := (mkF m 6 #[vr b181, vr x167, vr x176] [(.ref x167), (.ref b181)])) rfl (by rw [hml]; rfl) (argsL := [(.ref x167)]) (rest := [(.ref b181)]) (lenOf pd_9 rfl) rfl (Nat.le_of_eq rfl) (hb hby d13_6) (fun _ _ => ⟨rfl, eq189, (by decide : 0 + 0 ≤ _), (by decide : 0 + 0 ≤ _)⟩)
  dsimp only [Pt.U, Pt.locs, Pt.cells, Pt.slots] at X191 l191 y191 z191 st191 hQ191
  subst l191 y191 z191
  obtain ⟨rfl, N191q, eq191⟩ := hQ191
  have N192 := Fr.app N190 N191q
  refine Go.step (fun _ k => st191 _ k) ?_
  show Go p e below s _ _ _ T191 (mkF m 9 #[vr b181, vr x167, vr x176] [(.ref x167), (.ref b181)])
  obtain ⟨T193, h193, X193, e193, W193, st193⟩ := putF X191 hx hZ hown (host := "") (Or.inl (tw127 hw)) Via.refl eq191 F_e0_b181 E_b181 (Or.inr ⟨(tw128 hw), rfl, hnm⟩) (tw99 hw) (ty := (.object xs39)) (by decide) rfl rfl (g := (mkF m 9 #[vr b181, vr x167, vr x176] [(.ref x167), (.ref b181)])) rfl rfl (hb hby d13_9)
  have f195 := F_e0_b181.same W193
  have N196 := Fr.snoc X193 N192 g_b181
  refine Go.step (fun _ k => st193 _ (XS.aloadN X193.here hx rfl (hb hby d13_12) rfl rfl (XS.aloadN X193.here hx rfl (hb hby d13_13) rfl rfl k))) ?_
  show Go p e below s _ _ _ T193 (mkF m 14 #[vr b181, vr x167, vr x176] [(.ref x176), (.ref b181)])
  have f197 := (Nat.le_trans Z0 (Keep.of_wr W193).1)
  obtain ⟨_, _, ⟨T198, L198, k198, n198⟩, -, X198, ⟨Lc198, hQ198, l198, y198, z198⟩, st198⟩ := Jvm.LawKit.callS X193 hx (y := xm35) hown (mvT hZ (tw124 hw)) (mvT hZ (tw125 hw)) (mvT hZ (tw31 hw)) (mvT hZ (tw126 hw)) (by decide) (backOf (W := 1) (rm_Objects_requireNonNull_1 l Z a0 hw [] x176 h193 n0 f197) hZ (tw126 hw) (tw31 hw) (by decide) (by decide)) (g := (mkF m 14 #[vr b181, vr x167, vr x176] [(.ref x176), (.ref b181)])) rfl (by rw [hml]; rfl) (argsL := [(.ref x176)]) (rest := [(.ref b181)]) (lenOf pd_9 rfl) rfl (Nat.le_of_eq rfl) (hb hby d13_14) (fun _ _ => ⟨rfl, e193, (by decide : 0 + 0 ≤ _), (by decide : 0 + 0 ≤ _)⟩)
  dsimp only [Pt.U, Pt.locs, Pt.cells, Pt.slots] at X198 l198 y198 z198 st198 hQ198
  subst l198 y198 z198
  obtain ⟨rfl, N198q, eq198⟩ := hQ198
  have N199 := Fr.app N196 N198q
  refine Go.step (fun _ k => st198 _ k) ?_
  show Go p e below s _ _ _ T198 (mkF m 17 #[vr b181, vr x167, vr x176] [(.ref x176), (.ref b181)])
  have f200 := (F_e1_b181.other W193 (Or.inr (slot_ne (Or.inr (tw130 hw)) (Or.inr (tw128 hw)) (by decide) (t := (.object xs39)) (t' := (.object xs39)) (by decide) (by decide))))
  have f201 := (E_b181.wr W193)
  obtain ⟨T202, h202, X202, e202, W202, st202⟩ := putF X198 hx hZ hown (host := "") (Or.inl (tw129 hw)) Via.refl eq198 f200 f201 (Or.inr ⟨(tw130 hw), rfl, hnm⟩) (tw99 hw) (ty := (.object xs39)) (by decide) rfl rfl (g := (mkF m 17 #[vr b181, vr x167, vr x176] [(.ref x176), (.ref b181)])) rfl rfl (hb hby d13_17)
  have f203 := f200.same W202
  have N204 := Fr.snoc X202 N199 g_b181
  refine Go.step (fun _ k => st202 _ k) ?_
  show Go p e below s _ _ _ T202 (mkF m 20 #[vr b181, vr x167, vr x176] [])
  have f205 := (((Keep.refl h0 [b181]).wr W193 (Or.inl (List.mem_of_getElem? (i := 0) rfl))).wr W202 (Or.inl (List.mem_of_getElem? (i := 0) rfl)))
  have f206 := (f195.other W202 (Or.inr (slot_ne (Or.inr (tw128 hw)) (Or.inr (tw130 hw)) (by decide) (t := (.object xs39)) (t' := (.object xs39)) (by decide) (by decide))))
  have f207 := (Nat.le_trans (Nat.le_trans (Nat.le_refl _) (Keep.of_wr W193).1) (Keep.of_wr W202).1)
  exact Go.retV X202 hx hlk Bd.returns (hb hby d13_20) e202 ⟨rfl, N204, f205, f206, f203⟩ (by decide) (by decide)

theorem ef_List_of_0 (m : MethodId) (x0 : Addr) (x1 : Addr) : entryFrame m #[(.ref x0), (.ref x1)] 2 = mkF m 0 #[vr x0, vr x1] [] := by first | (simp [entryFrame, mkF, argsToLocals, Value.category]; done) | rfl
def Q_List_of_0 (Z : State) (x167 : Addr) (x176 : Addr) (h0 : Heap) (n0 : Nat) (v : Option Value) (h : Heap) (L : List Loc) : Prop := ∃ (b181 : Addr), v = some (.ref b181) ∧ Fr n0 L ∧ Keep h0 h [] ∧ h0.size ≤ b181 ∧ Exa Z h b181 xs21 ∧ Fld Z h b181 xs21 "e0" xs36 (.ref x167) ∧ Fld Z h b181 xs21 "e1" xs36 (.ref x176)
set_option maxRecDepth 65536 in
set_option maxHeartbeats 40000000 in
theorem rm_List_of_0 (l : Launch) (Z : State) (a0 : Array Value) (hw : ∀ d ∈ tables_1, d.before a0 Z = true) (ws : List Jvm.Cond) (x167 : Addr) (x176 : Addr) (h0 : Heap) (n0 : Nat) (Z0 : n0 ≤ h0.size) :
    MetFree l xm38 (head1 (Jvm.Cond.code xm38 jdk_40_method_38_code 2 (some (.object xs44)) :: ws) xr10) (fun a U => a = #[(.ref x167), (.ref x176)] ∧ Z.Warmed39 U.vm ∧ U.heap = h0) (fun _ _ _ _ _ => True) (fun _ U o U' => ∃ v L, o = .returned v ∧ Q_List_of_0 Z x167 x176 h0 n0 v U'.heap L ∧ FrameEnd U o U' L xr10.cells xr10.slots) := by
  refine MetFree.of_bodySF (plainFor_of_name pn_10) hisR ?_
  intro p e s m args below meth c s₁ Bd hml0 hP hK
  obtain ⟨rfl, hZ, hh⟩ := hP
  have hx := Bd.exec
  have hby := Bd.bytes
  have hlk : meth.locks = false := BodyLoose.notSynchronized Bd
  have hml : c.maxLocals = 2 := hml0
  have hown : s.vm.findClass xs44 = some m.cls := findClass_of_methodNamed Bd.named
  have hnm := (name_of_methodNamed Bd.named Bd.method).1
  have X0 : Stand p l e xr10 s m #[(.ref x167), (.ref x176)] below meth c s₁ [] 0 0 := Stand.of_body Bd
  have e0 : s₁.heap = h0 := by rw [← hh, Bd.state]; rfl
  have N0 := Fr.nil n0
  show Go p e below s (Q_List_of_0 Z x167 x176 h0 n0) xr10.cells xr10.slots s₁ (entryFrame m #[(.ref x167), (.ref x176)] 2)
  refine Go.cast (ef_List_of_0 m x167 x176) ?_
  show Go p e below s _ _ _ s₁ (mkF m 0 #[vr x167, vr x176] [])
  obtain ⟨T181, h181, X181, e181, E181, A181, D181, -, st181⟩ := newO X0 hx hZ hown (tw98 hw) (tw99 hw) (tw100 hw) e0 (g := (mkF m 0 #[vr x167, vr x176] [])) rfl (hb hby d12_0) (by decide) (by decide)
  obtain ⟨b181, g181⟩ : ∃ z, z = h0.size := ⟨_, rfl⟩
  rw [← g181] at A181 D181 st181
  have f182 : Fld Z h181 b181 xs21 "e0" xs36 .null := D181 (Or.inr (tw128 hw)) (ty := (.object xs39)) (by decide)
  have f183 : Fld Z h181 b181 xs21 "e1" xs36 .null := D181 (Or.inr (tw130 hw)) (ty := (.object xs39)) (by decide)
  refine Go.step (fun _ k => st181 _ (XS.dup X181.here hx rfl (hb hby d12_3) rfl rfl (XS.aloadN X181.here hx rfl (hb hby d12_4) rfl rfl (XS.aloadN X181.here hx rfl (hb hby d12_5) rfl rfl k)))) ?_
  show Go p e below s _ _ _ T181 (mkF m 6 #[vr x167, vr x176] [(.ref x176), (.ref x167), (.ref b181), (.ref b181)])
  have g194 := Nat.le_trans Z0 (Nat.le_of_eq g181.symm)
  have f208 := (Nat.le_trans Z0 E181.1)
  obtain ⟨_, _, ⟨T209, L209, k209, n209⟩, -, X209, ⟨Lc209, hQ209, l209, y209, z209⟩, st209⟩ := X181.specialBack hx (y := xm16) rfl hown (mvT hZ (tw101 hw)) (mvT hZ (tw102 hw)) (mvT hZ (tw104 hw)) (by decide) (backOf (W := 1) (rm_ImmutableCollections_List12_new_0 l Z a0 hw [] b181 x167 x176 h181 n0 f208 A181 f182 g194 f183) hZ (tw104 hw) (tw100 hw) (by decide) (by decide)) (g := (mkF m 6 #[vr x167, vr x176] [(.ref x176), (.ref x167), (.ref b181), (.ref b181)])) rfl (by rw [hml]; rfl) (Steps.refl _) (a := b181) (argsL := [(.ref x167), (.ref x176)]) (rest := [(.ref b181)]) (lenOf pd_10 rfl) rfl (Nat.le_of_eq rfl) (hb hby d12_6) (fun _ _ => ⟨rfl, e181, (by decide : 1 + 0 ≤ _), (by decide : 2 + 0 ≤ _)⟩)
  dsimp only [Pt.U, Pt.locs, Pt.cells, Pt.slots] at X209 l209 y209 z209 st209 hQ209
  subst l209 y209 z209
  obtain ⟨rfl, N209q, K209, P209_0, P209_1⟩ := hQ209
  have N210 := Fr.app N0 N209q
  refine Go.step (fun _ k => st209.trans k) ?_
  show Go p e below s _ _ _ T209 (mkF m 9 #[vr x167, vr x176] [(.ref b181)])
  have z211 := Nat.le_trans (Nat.le_refl _) (Nat.le_of_eq g181.symm)
  have f212 := (((Keep.refl h0 []).ext E181).trans K209 (allS (Or.inr z211) all0))
  have f213 := (A181.keep K209)
  have f214 := (Nat.le_trans (Nat.le_trans (Nat.le_refl _) E181.1) K209.1)
  exact Go.retA X209 hx hlk Bd.returns rfl rfl (hb hby d12_9) rfl ⟨b181, rfl, N210, f212, z211, f213, P209_0, P209_1⟩ (by decide) (by decide)

theorem ef_AbstractList_new_0 (m : MethodId) (x0 : Addr) : entryFrame m #[(.ref x0)] 1 = mkF m 0 #[vr x0] [] := by first | (simp [entryFrame, mkF, argsToLocals, Value.category]; done) | rfl
def Q_AbstractList_new_0 (Z : State) (b161 : Addr) (h0 : Heap) (n0 : Nat) (v : Option Value) (h : Heap) (L : List Loc) : Prop := v = none ∧ Fr n0 L ∧ Keep h0 h [b161] ∧ Fld Z h b161 xs29 "modCount" "I" cv0 ∧ Fld Z h b161 xs35 "elementData" xs34 .null ∧ Fld Z h b161 xs35 "size" "I" cv0
set_option maxRecDepth 65536 in
set_option maxHeartbeats 40000000 in
theorem rm_AbstractList_new_0 (l : Launch) (Z : State) (a0 : Array Value) (hw : ∀ d ∈ tables_1, d.before a0 Z = true) (ws : List Jvm.Cond) (b161 : Addr) (h0 : Heap) (n0 : Nat) (Z0 : n0 ≤ h0.size) (E_b161 : Exa Z h0 b161 xs35) (F_modCount_b161 : Fld Z h0 b161 xs29 "modCount" "I" cv0) (g_b161 : n0 ≤ b161) (F_elementData_b161 : Fld Z h0 b161 xs35 "elementData" xs34 .null) (F_size_b161 : Fld Z h0 b161 xs35 "size" "I" cv0) :
    MetFree l xm12 (head1 (Jvm.Cond.code xm12 jdk_39_method_1_code 1 none :: ws) xr7) (fun a U => a = #[(.ref b161)] ∧ Z.Warmed39 U.vm ∧ U.heap = h0) (fun _ _ _ _ _ => True) (fun _ U o U' => ∃ v L, o = .returned v ∧ Q_AbstractList_new_0 Z b161 h0 n0 v U'.heap L ∧ FrameEnd U o U' L xr7.cells xr7.slots) := by
  refine MetFree.of_bodySF (plainFor_of_name pn_11) hisR ?_
  intro p e s m args below meth c s₁ Bd hml0 hP hK
  obtain ⟨rfl, hZ, hh⟩ := hP
  have hx := Bd.exec
  have hby := Bd.bytes
  have hlk : meth.locks = false := BodyLoose.notSynchronized Bd
  have hml : c.maxLocals = 1 := hml0
  have hown : s.vm.findClass xs29 = some m.cls := findClass_of_methodNamed Bd.named
  have hnm := (name_of_methodNamed Bd.named Bd.method).1
  have X0 : Stand p l e xr7 s m #[(.ref b161)] below meth c s₁ [] 0 0 := Stand.of_body Bd
  have e0 : s₁.heap = h0 := by rw [← hh, Bd.state]; rfl
  have N0 := Fr.nil n0
  show Go p e below s (Q_AbstractList_new_0 Z b161 h0 n0) xr7.cells xr7.slots s₁ (entryFrame m #[(.ref b161)] 1)
  refine Go.cast (ef_AbstractList_new_0 m b161) ?_
  show Go p e below s _ _ _ s₁ (mkF m 0 #[vr b161] [])
  refine Go.step (fun _ k => XS.aloadN X0.here hx rfl (hb hby d19_0) rfl rfl k) ?_
  show Go p e below s _ _ _ s₁ (mkF m 1 #[vr b161] [(.ref b161)])
  obtain ⟨_, _, ⟨T217, L217, k217, n217⟩, -, X217, ⟨Lc217, hQ217, l217, y217, z217⟩, st217⟩ := X0.specialBack hx (y := xm11) rfl hown (mvT hZ (tw140 hw)) (mvT hZ (tw118 hw)) (mvT hZ (tw122 hw)) (by decide) (backOf (W := 0) (rm_AbstractCollection_new_0 l Z a0 hw [] b161 h0 n0 Z0) hZ (tw122 hw) (tw121 hw) (by decide) (by decide)) (g := (mkF m 1 #[vr b161] [(.ref b161)])) rfl (by rw [hml]; rfl) (Steps.refl _) (a := b161) (argsL := []) (rest := []) (lenOf pd_3 rfl) rfl (Nat.le_of_eq rfl) (hb hby d19_1) (fun _ _ => ⟨rfl, e0, (by decide : 0 + 0 ≤ _), (by decide : 0 + 0 ≤ _)⟩)
  dsimp only [Pt.U, Pt.locs, Pt.cells, Pt.slots] at X217 l217 y217 z217 st217 hQ217
  subst l217 y217 z217
  obtain ⟨rfl, N217q, eq217⟩ := hQ217
  have N218 := Fr.app N0 N217q
  refine Go.step (fun _ k => st217.trans (XS.aloadN X217.here hx rfl (hb hby d19_4) rfl rfl (XS.iconst X217.here hx rfl (hb hby d19_5) k))) ?_
  show Go p e below s _ _ _ T217 (mkF m 6 #[vr b161] [cv0, (.ref b161)])
  obtain ⟨T219, h219, X219, e219, W219, st219⟩ := putF X217 hx hZ hown (host := "") (Or.inl (tw142 hw)) Via.refl eq217 F_modCount_b161 E_b161 (Or.inl (tw143 hw)) (tw50 hw) (ty := .int) (by decide) rfl rfl (g := (mkF m 6 #[vr b161] [cv0, (.ref b161)])) rfl rfl (hb hby d19_6)
  have f221 := F_modCount_b161.same W219
  have N222 := Fr.snoc X219 N218 g_b161
  refine Go.step (fun _ k => st219 _ k) ?_
  show Go p e below s _ _ _ T219 (mkF m 9 #[vr b161] [])
  have f223 := ((Keep.refl h0 [b161]).wr W219 (Or.inl (List.mem_of_getElem? (i := 0) rfl)))
  have f224 := (F_elementData_b161.other W219 (Or.inr (slot_ne (Or.inl (tw187 hw)) (Or.inl (tw143 hw)) (by decide) (t := (.array (.object xs39))) (t' := .int) (by decide) (by decide))))
  have f225 := (F_size_b161.other W219 (Or.inr (slot_ne (Or.inl (tw159 hw)) (Or.inl (tw143 hw)) (by decide) (t := .int) (t' := .int) (by decide) (by decide))))
  have f226 := (Nat.le_trans (Nat.le_refl _) (Keep.of_wr W219).1)
  exact Go.retV X219 hx hlk Bd.returns (hb hby d19_9) e219 ⟨rfl, N222, f223, f221, f224, f225⟩ (by decide) (by decide)

theorem ef_ImmutableCollections_List12_toArray_0 (m : MethodId) (x0 : Addr) : entryFrame m #[(.ref x0)] 1 = mkF m 0 #[vr x0] [] := by first | (simp [entryFrame, mkF, argsToLocals, Value.category]; done) | rfl
def Q_ImmutableCollections_List12_toArray_0 (Z : State) (uu0 : Addr) (x176 : Addr) (em : Addr) (x167 : Addr) (h0 : Heap) (n0 : Nat) (v : Option Value) (h : Heap) (L : List Loc) : Prop := ∃ (b233 : Addr) (k233 : ClassId), v = some (.ref b233) ∧ Fr n0 L ∧ Keep h0 h [] ∧ h0.size ≤ b233 ∧ Exa Z h b233 xs34 ∧ Arv Z h b233 k233 (.object xs39) ci2 [(.ref x167), (.ref x176)] .null ∧ Ovr Z k233 xs39
set_option maxRecDepth 65536 in
set_option maxHeartbeats 40000000 in
theorem rm_ImmutableCollections_List12_toArray_0 (l : Launch) (Z : State) (a0 : Array Value) (hw : ∀ d ∈ tables_1, d.before a0 Z = true) (ws : List Jvm.Cond) (uu0 : Addr) (x176 : Addr) (em : Addr) (x167 : Addr) (h0 : Heap) (n0 : Nat) (Z0 : n0 ≤ h0.size) (F_e1_b181_215 : Fld Z h0 uu0 xs21 "e1" xs36 (.ref x176)) (Z_S_EMPTY : Sta Z Z.heap xs26 "EMPTY" xs36 (.ref em)) (O0 : Old Z n0 h0) (Z_E_em : Exa Z Z.heap em xs39) (ne_x176_em : x176 ≠ em) (F_e0_b181_215 : Fld Z h0 uu0 xs21 "e0" xs36 (.ref x167)) (E_x167 : Exa Z h0 x167 xs17) (E_x176 : Exa Z h0 x176 xs17) :
    MetFree l xm13 (head1 (Jvm.Cond.code xm13 jdk_44_method_10_code 1 (some (.array (.object xs39))) :: ws) xr36) (fun a U => a = #[(.ref uu0)] ∧ Z.Warmed39 U.vm ∧ U.heap = h0) (fun _ _ _ _ _ => True) (fun _ U o U' => ∃ v L, o = .returned v ∧ Q_ImmutableCollections_List12_toArray_0 Z uu0 x176 em x167 h0 n0 v U'.heap L ∧ FrameEnd U o U' L xr36.cells xr36.slots) := by
  refine MetFree.of_bodySF (plainFor_of_name pn_9) hisR ?_
  intro p e s m args below meth c s₁ Bd hml0 hP hK
  obtain ⟨rfl, hZ, hh⟩ := hP
  have hx := Bd.exec
  have hby := Bd.bytes
  have hlk : meth.locks = false := BodyLoose.notSynchronized Bd
  have hml : c.maxLocals = 1 := hml0
  have hown : s.vm.findClass xs21 = some m.cls := findClass_of_methodNamed Bd.named
  have hnm := (name_of_methodNamed Bd.named Bd.method).1
  have X0 : Stand p l e xr36 s m #[(.ref uu0)] below meth c s₁ [] 0 0 := Stand.of_body Bd
  have e0 : s₁.heap = h0 := by rw [← hh, Bd.state]; rfl
  have N0 := Fr.nil n0
  show Go p e below s (Q_ImmutableCollections_List12_toArray_0 Z uu0 x176 em x167 h0 n0) xr36.cells xr36.slots s₁ (entryFrame m #[(.ref uu0)] 1)
  refine Go.cast (ef_ImmutableCollections_List12_toArray_0 m uu0) ?_
  show Go p e below s _ _ _ s₁ (mkF m 0 #[vr uu0] [])
  refine Go.step (fun _ k => XS.aloadN X0.here hx rfl (hb hby d20_0) rfl rfl k) ?_
  show Go p e below s _ _ _ s₁ (mkF m 1 #[vr uu0] [(.ref uu0)])
  obtain ⟨T229, X229, e229, st229⟩ := getF X0 hx hZ hown (host := "") (Or.inl (tw129 hw)) Via.refl e0 F_e1_b181_215 (g := (mkF m 1 #[vr uu0] [(.ref uu0)])) rfl rfl (hb hby d20_1)
  refine Go.step (fun _ k => st229 _ k) ?_
  show Go p e below s _ _ _ T229 (mkF m 4 #[vr uu0] [(.ref x176)])
  obtain ⟨T230, X230, e230, st230⟩ := getS2 X229 hx hZ hown (Or.inr (tw153 hw)) Via.refl e229 (Z_S_EMPTY.ext O0.2) (g := (mkF m 4 #[vr uu0] [(.ref x176)])) rfl (hb hby d20_4)
  refine Go.step (fun _ k => st230 _ (Jvm.RoadKit.acmp (g := (mkF m 7 #[vr uu0] [(.ref em), (.ref x176)])) X230 hx rfl rfl rfl (pc0 := 7) (pc' := 22) (same := false) rfl (hb hby d20_7) rfl (decide_eq_false (fun q => ne_x176_em (Value.ref.inj q))) (by decide) (by decide) (XS.iconst X230.here hx rfl (hb hby d20_22) k))) ?_
  show Go p e below s _ _ _ T230 (mkF m 23 #[vr uu0] [cv2])
  obtain ⟨T233, h233, k233, X233, e233, E233, A233, D233, O233, st233⟩ := newRE X230 hx hZ hown (tw155 hw) (tw156 hw) e230 (g := (mkF m 23 #[vr uu0] [cv2])) rfl (hb hby d20_23) rfl (by decide) (cap := 2) (by decide) (by decide) (by decide) (by decide) (ad := xs34) (by decide)
  obtain ⟨b233, g233⟩ : ∃ z, z = h0.size := ⟨_, rfl⟩
  rw [← g233] at A233 D233 st233
  have f234 : Arv Z h233 b233 k233 (.object xs39) ci2 [.null, .null] .null := (Arv.new A233 (by decide)).pad (pad_rep [] .null 2)
  refine Go.step (fun _ k => st233 _ (XS.dup X233.here hx rfl (hb hby d20_26) rfl rfl (XS.iconst X233.here hx rfl (hb hby d20_27) (XS.aloadN X233.here hx rfl (hb hby d20_28) rfl rfl k)))) ?_
  show Go p e below s _ _ _ T233 (mkF m 29 #[vr uu0] [(.ref uu0), cv0, (.ref b233), (.ref b233)])
  have f235 := (F_e0_b181_215.ext E233)
  obtain ⟨T236, X236, e236, st236⟩ := getF X233 hx hZ hown (host := "") (Or.inl (tw127 hw)) Via.refl e233 f235 (g := (mkF m 29 #[vr uu0] [(.ref uu0), cv0, (.ref b233), (.ref b233)])) rfl rfl (hb hby d20_29)
  refine Go.step (fun _ k => st236 _ k) ?_
  show Go p e below s _ _ _ T236 (mkF m 32 #[vr uu0] [(.ref x167), cv0, (.ref b233), (.ref b233)])
  obtain ⟨cl237, Ar237, qq237, Sz237, Ng237, Hs237, Ft237⟩ := id f234
  have in237 : ¬ (ci0 < 0 ∨ cl237.slots.size ≤ (ci0).toNatClampNeg) := (inb_of Sz237 ⟨by decide, by decide⟩)
  have f238 := (E_x167.ext E233)
  obtain ⟨T237, h237, X237, e237, W237, st237⟩ := stR X236 hx hZ e236 Ar237 (j := ci0) in237 rfl (Sto.ofV Ar237 qq237 O233 (Ins.of_exa f238 (tw157 hw))) (g := (mkF m 32 #[vr uu0] [(.ref x167), cv0, (.ref b233), (.ref b233)])) rfl rfl (hb hby d20_32)
  have g239 := Nat.le_trans Z0 (Nat.le_of_eq g233.symm)
  have f240 : Arv Z h237 b233 k233 (.object xs39) ci2 [(.ref x167), .null] .null := Arv.set Ar237 qq237 Sz237 Ng237 Hs237 Ft237 rfl W237 0 rfl (Nat.le_of_ble_eq_true rfl)
  have N241 := Fr.snoc X237 N0 g239
  refine Go.step (fun _ k => st237 _ (XS.dup X237.here hx rfl (hb hby d20_33) rfl rfl (XS.iconst X237.here hx rfl (hb hby d20_34) (XS.aloadN X237.here hx rfl (hb hby d20_35) rfl rfl k)))) ?_
  show Go p e below s _ _ _ T237 (mkF m 36 #[vr uu0] [(.ref uu0), cv1, (.ref b233), (.ref b233)])
  have ne242 : uu0 ≠ b233 := Nat.ne_of_lt (Nat.lt_of_lt_of_le F_e1_b181_215.lt (Nat.le_of_eq g233.symm))
  have f243 := ((F_e1_b181_215.ext E233).other W237 (Or.inl ne242))
  obtain ⟨T244, X244, e244, st244⟩ := getF X237 hx hZ hown (host := "") (Or.inl (tw129 hw)) Via.refl e237 f243 (g := (mkF m 36 #[vr uu0] [(.ref uu0), cv1, (.ref b233), (.ref b233)])) rfl rfl (hb hby d20_36)
  refine Go.step (fun _ k => st244 _ k) ?_
  show Go p e below s _ _ _ T244 (mkF m 39 #[vr uu0] [(.ref x176), cv1, (.ref b233), (.ref b233)])
  obtain ⟨cl245, Ar245, qq245, Sz245, Ng245, Hs245, Ft245⟩ := id f240
  have in245 : ¬ (ci1 < 0 ∨ cl245.slots.size ≤ (ci1).toNatClampNeg) := (inb_of Sz245 ⟨by decide, by decide⟩)
  have f246 := ((E_x176.ext E233).wr W237)
  obtain ⟨T245, h245, X245, e245, W245, st245⟩ := stR X244 hx hZ e244 Ar245 (j := ci1) in245 rfl (Sto.ofV Ar245 qq245 O233 (Ins.of_exa f246 (tw157 hw))) (g := (mkF m 39 #[vr uu0] [(.ref x176), cv1, (.ref b233), (.ref b233)])) rfl rfl (hb hby d20_39)
  have f247 : Arv Z h245 b233 k233 (.object xs39) ci2 [(.ref x167), (.ref x176)] .null := Arv.set Ar245 qq245 Sz245 Ng245 Hs245 Ft245 rfl W245 1 rfl (Nat.le_of_ble_eq_true rfl)
  have N248 := Fr.snoc X245 N241 g239
  refine Go.step (fun _ k => st245 _ k) ?_
  show Go p e below s _ _ _ T245 (mkF m 40 #[vr uu0] [(.ref b233)])
  have z249 := Nat.le_trans (Nat.le_refl _) (Nat.le_of_eq g233.symm)
  have f250 := ((((Keep.refl h0 []).ext E233).wr W237 (Or.inr z249)).wr W245 (Or.inr z249))
  have f251 := ((D233.wr W237).wr W245)
  have f252 := (Nat.le_trans (Nat.le_trans (Nat.le_trans (Nat.le_refl _) E233.1) (Keep.of_wr W237).1) (Keep.of_wr W245).1)
  exact Go.retA X245 hx hlk Bd.returns rfl rfl (hb hby d20_40) e245 ⟨b233, k233, rfl, N248, f250, z249, f251, f247, O233⟩ (by decide) (by decide)

theorem ef_Math_min_0 (m : MethodId) (x0 : Int32) (x1 : Int32) : entryFrame m #[(.int x0), (.int x1)] 2 = mkF m 0 #[vi x0, vi x1] [] := by first | (simp [entryFrame, mkF, argsToLocals, Value.category]; done) | rfl
def Q_Math_min_0 (Z : State) (n278 : Int32) (n279 : Int32) (h0 : Heap) (n0 : Nat) (v : Option Value) (h : Heap) (L : List Loc) : Prop := v = some (.int n278) ∧ Fr n0 L ∧ h = h0
set_option maxRecDepth 65536 in
set_option maxHeartbeats 40000000 in
theorem rm_Math_min_0 (l : Launch) (Z : State) (a0 : Array Value) (hw : ∀ d ∈ tables_1, d.before a0 Z = true) (ws : List Jvm.Cond) (n278 : Int32) (n279 : Int32) (h0 : Heap) (n0 : Nat) (Z0 : n0 ≤ h0.size) (d_280 : ¬ n279 < n278) :
    MetFree l xm17 (head1 (Jvm.Cond.code xm17 jdk_29_method_69_code 2 (some .int) :: ws) xr35) (fun a U => a = #[(.int n278), (.int n279)] ∧ Z.Warmed39 U.vm ∧ U.heap = h0) (fun _ _ _ _ _ => True) (fun _ U o U' => ∃ v L, o = .returned v ∧ Q_Math_min_0 Z n278 n279 h0 n0 v U'.heap L ∧ FrameEnd U o U' L xr35.cells xr35.slots) := by
  refine MetFree.of_bodySF (Jvm.Free.JP.mathPlain rfl (by decide +kernel)) hisR ?_
  intro p e s m args below meth c s₁ Bd hml0 hP hK
  obtain ⟨rfl, hZ, hh⟩ := hP
  have hx := Bd.exec
  have hby := Bd.bytes
  have hlk : meth.locks = false := BodyLoose.notSynchronized Bd
  have hml : c.maxLocals = 2 := hml0
  have hown : s.vm.findClass xs46 = some m.cls := findClass_of_methodNamed Bd.named
  have hnm := (name_of_methodNamed Bd.named Bd.method).1
  have X0 : Stand p l e xr35 s m #[(.int n278), (.int n279)] below meth c s₁ [] 0 0 := Stand.of_body Bd
  have e0 : s₁.heap = h0 := by rw [← hh, Bd.state]; rfl
  have N0 := Fr.nil n0
  show Go p e below s (Q_Math_min_0 Z n278 n279 h0 n0) xr35.cells xr35.slots s₁ (entryFrame m #[(.int n278), (.int n279)] 2)
  refine Go.cast (ef_Math_min_0 m n278 n279) ?_
  show Go p e below s _ _ _ s₁ (mkF m 0 #[vi n278, vi n279] [])
  refine Go.step (fun _ k => XS.iloadN X0.here hx rfl (hb hby d22_0) rfl (XS.iloadN X0.here hx rfl (hb hby d22_1) rfl (XS.icmpNo X0.here hx rfl (hb hby d22_2) rfl (flt d_280).2.2.1 (XS.iloadN X0.here hx rfl (hb hby d22_5) rfl (XS.goto X0.here hx rfl (pc0 := 6) (pc' := 10) rfl (hb hby d22_6) (by decide) (by decide) k))))) ?_
  show Go p e below s _ _ _ s₁ (mkF m 10 #[vi n278, vi n279] [(.int n278)])
  exact Go.retI X0 hx hlk Bd.returns (hb hby d22_10) e0 ⟨rfl, N0, rfl⟩ (by decide) (by decide)

theorem ef_Arrays_copyOf_0 (m : MethodId) (x0 : Addr) (x1 : Int32) (x2 : Addr) : entryFrame m #[(.ref x0), (.int x1), (.ref x2)] 4 = mkF m 0 #[vr x0, vi x1, vr x2, .unset] [] := by first | (simp [entryFrame, mkF, argsToLocals, Value.category]; done) | rfl
def Q_Arrays_copyOf_0 (Z : State) (uu1 : Addr) (moa : Addr) (uu2 : ClassId) (x167 : Addr) (x176 : Addr) (h0 : Heap) (n0 : Nat) (v : Option Value) (h : Heap) (L : List Loc) : Prop := ∃ (b274 : Addr) (k274 : ClassId), v = some (.ref b274) ∧ Fr n0 L ∧ Keep h0 h [] ∧ h0.size ≤ b274 ∧ Exa Z h b274 xs34 ∧ Arv Z h b274 k274 (.object xs39) ci2 [(.ref x167), (.ref x176)] .null ∧ Ovr Z k274 xs39
set_option maxRecDepth 65536 in
set_option maxHeartbeats 40000000 in
theorem rm_Arrays_copyOf_0 (l : Launch) (Z : State) (a0 : Array Value) (hw : ∀ d ∈ tables_1, d.before a0 Z = true) (ws : List Jvm.Cond) (uu1 : Addr) (moa : Addr) (uu2 : ClassId) (x167 : Addr) (x176 : Addr) (h0 : Heap) (n0 : Nat) (Z0 : n0 ≤ h0.size) (M_moa : Mir Z xs34 moa) (V_b233_259 : Arv Z h0 uu1 uu2 (.object xs39) ci2 [(.ref x167), (.ref x176)] .null) (E_x176 : Exa Z h0 x176 xs17) (E_x167 : Exa Z h0 x167 xs17) :
    MetFree l xm22 (head1 (Jvm.Cond.code xm22 jdk_65_method_120_code 4 (some (.array (.object xs39))) :: ws) xr11) (fun a U => a = #[(.ref uu1), cv2, (.ref moa)] ∧ Z.Warmed39 U.vm ∧ U.heap = h0) (fun _ _ _ _ _ => True) (fun _ U o U' => ∃ v L, o = .returned v ∧ Q_Arrays_copyOf_0 Z uu1 moa uu2 x167 x176 h0 n0 v U'.heap L ∧ FrameEnd U o U' L xr11.cells xr11.slots) := by
  refine MetFree.of_bodySF (plainFor_of_name pn_12) hisR ?_
  intro p e s m args below meth c s₁ Bd hml0 hP hK
  obtain ⟨rfl, hZ, hh⟩ := hP
  have hx := Bd.exec
  have hby := Bd.bytes
  have hlk : meth.locks = false := BodyLoose.notSynchronized Bd
  have hml : c.maxLocals = 4 := hml0
  have hown : s.vm.findClass xs42 = some m.cls := findClass_of_methodNamed Bd.named
  have hnm := (name_of_methodNamed Bd.named Bd.method).1
  have X0 : Stand p l e xr11 s m #[(.ref uu1), cv2, (.ref moa)] below meth c s₁ [] 0 0 := Stand.of_body Bd
  have e0 : s₁.heap = h0 := by rw [← hh, Bd.state]; rfl
  have N0 := Fr.nil n0
  show Go p e below s (Q_Arrays_copyOf_0 Z uu1 moa uu2 x167 x176 h0 n0) xr11.cells xr11.slots s₁ (entryFrame m #[(.ref uu1), cv2, (.ref moa)] 4)
  refine Go.cast (ef_Arrays_copyOf_0 m uu1 ci2 moa) ?_
  show Go p e below s _ _ _ s₁ (mkF m 0 #[vr uu1, .val cv2, vr moa, .unset] [])
  refine Go.step (fun _ k => XS.aloadN X0.here hx rfl (hb hby d21_0) rfl rfl k) ?_
  show Go p e below s _ _ _ s₁ (mkF m 1 #[vr uu1, .val cv2, vr moa, .unset] [(.ref moa)])
  obtain ⟨T273, X273, e273, st273⟩ := own_ldcM X0 hx hZ hown (tw176 hw) e0 M_moa (g := (mkF m 1 #[vr uu1, .val cv2, vr moa, .unset] [(.ref moa)])) rfl (hb hby d21_1)
  refine Go.step (fun _ k => st273 _ (Jvm.RoadKit.acmp (g := (mkF m 3 #[vr uu1, .val cv2, vr moa, .unset] [(.ref moa), (.ref moa)])) X273 hx rfl rfl rfl (pc0 := 3) (pc' := 6) (same := true) rfl (hb hby d21_3) rfl (decide_eq_true rfl) (by decide) (by decide) (XS.iloadN X273.here hx rfl (hb hby d21_6) rfl k))) ?_
  show Go p e below s _ _ _ T273 (mkF m 7 #[vr uu1, .val cv2, vr moa, .unset] [cv2])
  obtain ⟨T274, h274, k274, X274, e274, E274, A274, D274, O274, st274⟩ := newRE X273 hx hZ hown (tw177 hw) (tw156 hw) e273 (g := (mkF m 7 #[vr uu1, .val cv2, vr moa, .unset] [cv2])) rfl (hb hby d21_7) rfl (by decide) (cap := 2) (by decide) (by decide) (by decide) (by decide) (ad := xs34) (by decide)
  obtain ⟨b274, g274⟩ : ∃ z, z = h0.size := ⟨_, rfl⟩
  rw [← g274] at A274 D274 st274
  have f275 : Arv Z h274 b274 k274 (.object xs39) ci2 [.null, .null] .null := (Arv.new A274 (by decide)).pad (pad_rep [] .null 2)
  refine Go.step (fun _ k => st274 _ (XS.goto X274.here hx rfl (pc0 := 10) (pc' := 24) rfl (hb hby d21_10) (by decide) (by decide) (XS.astoreN X274.here hx rfl (hb hby d21_24) rfl rfl (l' := #[vr uu1, .val cv2, vr moa, vr b274]) rfl (XS.aloadN X274.here hx rfl (hb hby d21_25) rfl rfl (XS.iconst X274.here hx rfl (hb hby d21_26) (XS.aloadN X274.here hx rfl (hb hby d21_27) rfl rfl (XS.iconst X274.here hx rfl (hb hby d21_28) (XS.aloadN X274.here hx rfl (hb hby d21_29) rfl rfl k)))))))) ?_
  show Go p e below s _ _ _ T274 (mkF m 30 #[vr uu1, .val cv2, vr moa, vr b274] [(.ref uu1), cv0, (.ref b274), cv0, (.ref uu1)])
  have f276 := (V_b233_259.ext E274)
  obtain ⟨cl277, Ar277, -, Sz277, Ng277, -, -⟩ := id f276
  have aln277 := X274.arraylength hx (by rw [e274]; exact Ar277.1) (State.isArrayOf_alike hZ.alike Ar277.2.1) (g := (mkF m 30 #[vr uu1, .val cv2, vr moa, vr b274] [(.ref uu1), cv0, (.ref b274), cv0, (.ref uu1)])) rfl rfl (hb hby d21_30)
  rw [len_of Sz277 Ng277] at aln277
  refine Go.step (fun _ k => aln277 _ (XS.iloadN X274.here hx rfl (hb hby d21_31) rfl k)) ?_
  show Go p e below s _ _ _ T274 (mkF m 32 #[vr uu1, .val cv2, vr moa, vr b274] [cv2, cv2, cv0, (.ref b274), cv0, (.ref uu1)])
  have f281 := (Nat.le_trans Z0 E274.1)
  obtain ⟨_, _, ⟨T282, L282, k282, n282⟩, -, X282, ⟨Lc282, hQ282, l282, y282, z282⟩, st282⟩ := Jvm.LawKit.callS X274 hx (y := xm17) hown (mvT hZ (tw178 hw)) (mvT hZ (tw179 hw)) (mvT hZ (tw180 hw)) (mvT hZ (tw181 hw)) (by decide) (backOf (W := 4) (rm_Math_min_0 l Z a0 hw [] ci2 ci2 h274 n0 f281 (by decide)) hZ (tw181 hw) (tw180 hw) (by decide) (by decide)) (g := (mkF m 32 #[vr uu1, .val cv2, vr moa, vr b274] [cv2, cv2, cv0, (.ref b274), cv0, (.ref uu1)])) rfl (by rw [hml]; rfl) (argsL := [cv2, cv2]) (rest := [cv0, (.ref b274), cv0, (.ref uu1)]) (lenOf pd_13 rfl) rfl (Nat.le_of_eq rfl) (hb hby d21_32) (fun _ _ => ⟨rfl, e274, (by decide : 1 + 0 ≤ _), (by decide : 2 + 0 ≤ _)⟩)
  dsimp only [Pt.U, Pt.locs, Pt.cells, Pt.slots] at X282 l282 y282 z282 st282 hQ282
  subst l282 y282 z282
  obtain ⟨rfl, N282q, eq282⟩ := hQ282
  have N283 := Fr.app N0 N282q
  refine Go.step (fun _ k => st282 _ k) ?_
  show Go p e below s _ _ _ T282 (mkF m 35 #[vr uu1, .val cv2, vr moa, vr b274] [cv2, cv0, (.ref b274), cv0, (.ref uu1)])
  have g285 := Nat.le_trans Z0 (Nat.le_of_eq g274.symm)
  obtain ⟨cl286, Ar286, qq286, -⟩ := id f275
  have f287 := (E_x176.ext E274)
  obtain ⟨cl288, Ar288, qq288, -⟩ := id f275
  have f289 := (E_x167.ext E274)
  obtain ⟨T284, h284, L284, X284, e284, N284, K284, V284, st284⟩ := cpA X282 hx hZ hown (tw182 hw) (tw185 hw) (tw183 hw) (tw184 hw) eq282 f276 f275 (us := [(.ref x167), (.ref x176)]) (Or.inr ⟨rfl, rfl, (And.intro (Sto.ofV Ar288 qq288 O274 (Ins.of_exa f289 (tw157 hw))) (And.intro (Sto.ofV Ar286 qq286 O274 (Ins.of_exa f287 (tw157 hw))) trivial))⟩) (by decide) (by decide) (by decide) (by decide) (by decide) rfl (Nat.le_of_ble_eq_true rfl) N283 g285 (g := (mkF m 35 #[vr uu1, .val cv2, vr moa, vr b274] [cv2, cv0, (.ref b274), cv0, (.ref uu1)])) rfl (by rw [hml]; rfl) rfl (hb hby d21_35) (by decide) (W := 0) (Nat.le_of_eq rfl) (by decide)
  have f290 : Arv Z h284 b274 k274 (.object xs39) ci2 [(.ref x167), (.ref x176)] .null := V284
  refine Go.step (fun _ k => st284 _ (XS.aloadN X284.here hx rfl (hb hby d21_38) rfl rfl k)) ?_
  show Go p e below s _ _ _ T284 (mkF m 39 #[vr uu1, .val cv2, vr moa, vr b274] [(.ref b274)])
  have z291 := Nat.le_trans (Nat.le_refl _) (Nat.le_of_eq g274.symm)
  have f292 := (((Keep.refl h0 []).ext E274).trans K284 (allS (Or.inr z291) all0))
  have f293 := (D274.keep K284)
  have f294 := (Nat.le_trans (Nat.le_trans (Nat.le_refl _) E274.1) K284.1)
  exact Go.retA X284 hx hlk Bd.returns rfl rfl (hb hby d21_39) e284 ⟨b274, k274, rfl, N284, f292, z291, f293, f290, O274⟩ (by decide) (by decide)

theorem ef_ArrayList_new_0 (m : MethodId) (x0 : Addr) (x1 : Addr) : entryFrame m #[(.ref x0), (.ref x1)] 3 = mkF m 0 #[vr x0, vr x1, .unset] [] := by first | (simp [entryFrame, mkF, argsToLocals, Value.category]; done) | rfl
def Q_ArrayList_new_0 (Z : State) (b161 : Addr) (uu0 : Addr) (x176 : Addr) (em : Addr) (x167 : Addr) (m12 : Addr) (mal : Addr) (moa : Addr) (h0 : Heap) (n0 : Nat) (v : Option Value) (h : Heap) (L : List Loc) : Prop := ∃ (uu3 : Addr) (uu4 : ClassId), v = none ∧ Fr n0 L ∧ Keep h0 h [b161] ∧ Fld Z h b161 xs29 "modCount" "I" cv0 ∧ Fld Z h b161 xs35 "elementData" xs34 (.ref uu3) ∧ Fld Z h b161 xs35 "size" "I" cv2 ∧ h0.size ≤ uu3 ∧ Exa Z h uu3 xs34 ∧ Arv Z h uu3 uu4 (.object xs39) ci2 [(.ref x167), (.ref x176)] .null ∧ Ovr Z uu4 xs39
set_option maxRecDepth 65536 in
set_option maxHeartbeats 40000000 in
theorem rm_ArrayList_new_0 (l : Launch) (Z : State) (a0 : Array Value) (hw : ∀ d ∈ tables_1, d.before a0 Z = true) (ws : List Jvm.Cond) (b161 : Addr) (uu0 : Addr) (x176 : Addr) (em : Addr) (x167 : Addr) (m12 : Addr) (mal : Addr) (moa : Addr) (h0 : Heap) (n0 : Nat) (Z0 : n0 ≤ h0.size) (E_b161 : Exa Z h0 b161 xs35) (F_modCount_b161 : Fld Z h0 b161 xs29 "modCount" "I" cv0) (g_b161 : n0 ≤ b161) (F_elementData_b161 : Fld Z h0 b161 xs35 "elementData" xs34 .null) (F_size_b161 : Fld Z h0 b161 xs35 "size" "I" cv0) (E_b181_215 : Exa Z h0 uu0 xs21) (F_e1_b181_215 : Fld Z h0 uu0 xs21 "e1" xs36 (.ref x176)) (Z_S_EMPTY : Sta Z Z.heap xs26 "EMPTY" xs36 (.ref em)) (O0 : Old Z n0 h0) (Z_E_em : Exa Z Z.heap em xs39) (ne_x176_em : x176 ≠ em) (F_e0_b181_215 : Fld Z h0 uu0 xs21 "e0" xs36 (.ref x167)) (E_x167 : Exa Z h0 x167 xs17) (E_x176 : Exa Z h0 x176 xs17) (ne_b181_215_b161 : uu0 ≠ b161) (M_m12 : Mir Z xs21 m12) (M_mal : Mir Z xs35 mal) (ne_m12_mal : m12 ≠ mal) (M_moa : Mir Z xs34 moa) :
    MetFree l xm18 (head1 (Jvm.Cond.code xm18 jdk_38_method_3_code 3 none :: ws) xr12) (fun a U => a = #[(.ref b161), (.ref uu0)] ∧ Z.Warmed39 U.vm ∧ U.heap = h0) (fun _ _ _ _ _ => True) (fun _ U o U' => ∃ v L, o = .returned v ∧ Q_ArrayList_new_0 Z b161 uu0 x176 em x167 m12 mal moa h0 n0 v U'.heap L ∧ FrameEnd U o U' L xr12.cells xr12.slots) := by
  refine MetFree.of_bodySF (plainFor_of_name pn_13) hisR ?_
  intro p e s m args below meth c s₁ Bd hml0 hP hK
  obtain ⟨rfl, hZ, hh⟩ := hP
  have hx := Bd.exec
  have hby := Bd.bytes
  have hlk : meth.locks = false := BodyLoose.notSynchronized Bd
  have hml : c.maxLocals = 3 := hml0
  have hown : s.vm.findClass xs35 = some m.cls := findClass_of_methodNamed Bd.named
  have hnm := (name_of_methodNamed Bd.named Bd.method).1
  have X0 : Stand p l e xr12 s m #[(.ref b161), (.ref uu0)] below meth c s₁ [] 0 0 := Stand.of_body Bd
  have e0 : s₁.heap = h0 := by rw [← hh, Bd.state]; rfl
  have N0 := Fr.nil n0
  show Go p e below s (Q_ArrayList_new_0 Z b161 uu0 x176 em x167 m12 mal moa h0 n0) xr12.cells xr12.slots s₁ (entryFrame m #[(.ref b161), (.ref uu0)] 3)
  refine Go.cast (ef_ArrayList_new_0 m b161 uu0) ?_
  show Go p e below s _ _ _ s₁ (mkF m 0 #[vr b161, vr uu0, .unset] [])
  refine Go.step (fun _ k => XS.aloadN X0.here hx rfl (hb hby d18_0) rfl rfl k) ?_
  show Go p e below s _ _ _ s₁ (mkF m 1 #[vr b161, vr uu0, .unset] [(.ref b161)])
  obtain ⟨_, _, ⟨T227, L227, k227, n227⟩, -, X227, ⟨Lc227, hQ227, l227, y227, z227⟩, st227⟩ := X0.specialBack hx (y := xm12) rfl hown (mvT hZ (tw134 hw)) (mvT hZ (tw135 hw)) (mvT hZ (tw139 hw)) (by decide) (backOf (W := 0) (rm_AbstractList_new_0 l Z a0 hw [] b161 h0 n0 Z0 E_b161 F_modCount_b161 g_b161 F_elementData_b161 F_size_b161) hZ (tw139 hw) (tw138 hw) (by decide) (by decide)) (g := (mkF m 1 #[vr b161, vr uu0, .unset] [(.ref b161)])) rfl (by rw [hml]; rfl) (Steps.refl _) (a := b161) (argsL := []) (rest := []) (lenOf pd_3 rfl) rfl (Nat.le_of_eq rfl) (hb hby d18_1) (fun _ _ => ⟨rfl, e0, (by decide : 0 + 0 ≤ _), (by decide : 0 + 0 ≤ _)⟩)
  dsimp only [Pt.U, Pt.locs, Pt.cells, Pt.slots] at X227 l227 y227 z227 st227 hQ227
  subst l227 y227 z227
  obtain ⟨rfl, N227q, K227, P227_0, P227_1, P227_2⟩ := hQ227
  have N228 := Fr.app N0 N227q
  refine Go.step (fun _ k => st227.trans (XS.aloadN X227.here hx rfl (hb hby d18_4) rfl rfl k)) ?_
  show Go p e below s _ _ _ T227 (mkF m 5 #[vr b161, vr uu0, .unset] [(.ref uu0)])
  have f231 := (O0.keep K227 (allS g_b161 all0))
  have f253 := (Nat.le_trans Z0 K227.1)
  have f255 := (F_e1_b181_215.keep K227 (ninS ne_b181_215_b161 nin0))
  have f256 := (F_e0_b181_215.keep K227 (ninS ne_b181_215_b161 nin0))
  have f257 := (E_x167.keep K227)
  have f258 := (E_x176.keep K227)
  have f260 := (E_b181_215.keep K227)
  obtain ⟨cq259, kq259, q259a, q259b, q259c⟩ := isOf hZ rfl f260
  obtain ⟨_, _, ⟨T259, L259, k259, n259⟩, -, X259, ⟨Lc259, hQ259, l259, y259, z259⟩, st259⟩ := X227.interfaceBack hx (xi := (⟨"java/util/Collection", "toArray", xs32⟩ : MethodName)) (y := xm13) hown (mvT hZ (tw144 hw)) (mvT hZ (tw145 hw)) (mvT hZ (tw146 hw)) (mvT hZ (tw147 hw)) (mvT hZ (tw148 hw)) (mvT hZ (tw149 hw)) (mvT hZ (tw150 hw)) (mvT hZ (tw151 hw)) (by decide) (backOf (W := 0) (rm_ImmutableCollections_List12_toArray_0 l Z a0 hw [] uu0 x176 em x167 T227.heap n0 f253 f255 Z_S_EMPTY f231 Z_E_em ne_x176_em f256 f257 f258) hZ (tw152 hw) (tw100 hw) (by decide) (by decide)) q259a q259b q259c (g := (mkF m 5 #[vr b161, vr uu0, .unset] [(.ref uu0)])) rfl (by rw [hml]; rfl) (Steps.refl _) (argsL := []) (rest := []) (lenOf pd_12 rfl) rfl (Nat.le_of_eq rfl) (hb hby d18_5) (fun _ _ => ⟨rfl, rfl, (by decide : 0 + 1 ≤ _), (by decide : 0 + 2 ≤ _)⟩)
  dsimp only [Pt.U, Pt.locs, Pt.cells, Pt.slots] at X259 l259 y259 z259 st259 hQ259
  subst l259 y259 z259
  obtain ⟨uu1, uu2, rfl, N259q, K259, P259_0, P259_1, P259_2, P259_3⟩ := hQ259
  have N261 := Fr.app N228 N259q
  refine Go.step (fun _ k => st259.trans (XS.astoreN X259.here hx rfl (hb hby d18_10) rfl rfl (l' := #[vr b161, vr uu0, vr uu1]) rfl (XS.aloadN X259.here hx rfl (hb hby d18_11) rfl rfl (XS.aloadN X259.here hx rfl (hb hby d18_12) rfl rfl k)))) ?_
  show Go p e below s _ _ _ T259 (mkF m 13 #[vr b161, vr uu0, vr uu1] [(.ref uu1), (.ref b161)])
  obtain ⟨cl262, Ar262, -, Sz262, Ng262, -, -⟩ := id P259_2
  have aln262 := X259.arraylength hx (by exact Ar262.1) (State.isArrayOf_alike hZ.alike Ar262.2.1) (g := (mkF m 13 #[vr b161, vr uu0, vr uu1] [(.ref uu1), (.ref b161)])) rfl rfl (hb hby d18_13)
  rw [len_of Sz262 Ng262] at aln262
  refine Go.step (fun _ k => aln262 _ (XS.dupX1 X259.here hx rfl (hb hby d18_14) rfl rfl rfl k)) ?_
  show Go p e below s _ _ _ T259 (mkF m 15 #[vr b161, vr uu0, vr uu1] [cv2, (.ref b161), cv2])
  have f263 := (P227_2.keep K259 nin0)
  have f264 := ((E_b161.keep K227).keep K259)
  obtain ⟨T265, h265, X265, e265, W265, st265⟩ := putF X259 hx hZ hown (host := "") (Or.inl (tw158 hw)) Via.refl rfl f263 f264 (Or.inl (tw159 hw)) (tw50 hw) (ty := .int) (by decide) rfl rfl (g := (mkF m 15 #[vr b161, vr uu0, vr uu1] [cv2, (.ref b161), cv2])) rfl rfl (hb hby d18_15)
  have f266 := f263.same W265
  have N267 := Fr.snoc X265 N261 g_b161
  refine Go.step (fun _ k => st265 _ (XS.ifNo X265.here hx rfl (hb hby d18_18) rfl ((if0 _ _).trans (feq (by decide)).1) (XS.aloadN X265.here hx rfl (hb hby d18_21) rfl rfl k))) ?_
  show Go p e below s _ _ _ T265 (mkF m 22 #[vr b161, vr uu0, vr uu1] [(.ref uu0)])
  have f268 := ((f260.keep K259).wr W265)
  obtain ⟨T269, X269, e269, st269⟩ := own_gcI X265 hx hZ hown (tw160 hw) (tw161 hw) (tw162 hw) (tw163 hw) (tw164 hw) (tw165 hw) (tw166 hw) (tw151 hw) (tw167 hw) e265 f268 M_m12 (g := (mkF m 22 #[vr b161, vr uu0, vr uu1] [(.ref uu0)])) rfl (by rw [hml]; rfl) rfl (hb hby d18_22) (by decide) (W := 0) (Nat.le_of_eq rfl) (by decide)
  refine Go.step (fun _ k => st269 _ k) ?_
  show Go p e below s _ _ _ T269 (mkF m 27 #[vr b161, vr uu0, vr uu1] [(.ref m12)])
  obtain ⟨T270, X270, e270, st270⟩ := own_ldcM X269 hx hZ hown (tw168 hw) e269 M_mal (g := (mkF m 27 #[vr b161, vr uu0, vr uu1] [(.ref m12)])) rfl (hb hby d18_27)
  refine Go.step (fun _ k => st270 _ (Jvm.RoadKit.acmp (g := (mkF m 29 #[vr b161, vr uu0, vr uu1] [(.ref mal), (.ref m12)])) X270 hx rfl rfl rfl (pc0 := 29) (pc' := 40) (same := false) rfl (hb hby d18_29) rfl (decide_eq_false (fun q => ne_m12_mal (Value.ref.inj q))) (by decide) (by decide) (XS.aloadN X270.here hx rfl (hb hby d18_40) rfl rfl (XS.aloadN X270.here hx rfl (hb hby d18_41) rfl rfl (XS.aloadN X270.here hx rfl (hb hby d18_42) rfl rfl k))))) ?_
  show Go p e below s _ _ _ T270 (mkF m 43 #[vr b161, vr uu0, vr uu1] [(.ref b161), (.ref uu1), (.ref b161)])
  obtain ⟨T271, X271, e271, st271⟩ := getF X270 hx hZ hown (host := "") (Or.inl (tw158 hw)) Via.refl e270 f266 (g := (mkF m 43 #[vr b161, vr uu0, vr uu1] [(.ref b161), (.ref uu1), (.ref b161)])) rfl rfl (hb hby d18_43)
  refine Go.step (fun _ k => st271 _ k) ?_
  show Go p e below s _ _ _ T271 (mkF m 46 #[vr b161, vr uu0, vr uu1] [cv2, (.ref uu1), (.ref b161)])
  obtain ⟨T272, X272, e272, st272⟩ := own_ldcM X271 hx hZ hown (tw170 hw) e271 M_moa (g := (mkF m 46 #[vr b161, vr uu0, vr uu1] [cv2, (.ref uu1), (.ref b161)])) rfl (hb hby d18_46)
  refine Go.step (fun _ k => st272 _ k) ?_
  show Go p e below s _ _ _ T272 (mkF m 48 #[vr b161, vr uu0, vr uu1] [(.ref moa), cv2, (.ref uu1), (.ref b161)])
  have f295 := (Nat.le_trans (Nat.le_trans f253 K259.1) (Keep.of_wr W265).1)
  have f296 := (E_b161.keep K227)
  have ne297 : b161 ≠ uu1 := Nat.ne_of_lt (Nat.lt_of_lt_of_le f296.lt P259_0)
  have f298 := (P259_2.other W265 (Ne.symm ne297))
  have f299 := ((f258.keep K259).wr W265)
  have f300 := ((f257.keep K259).wr W265)
  obtain ⟨_, _, ⟨T301, L301, k301, n301⟩, -, X301, ⟨Lc301, hQ301, l301, y301, z301⟩, st301⟩ := Jvm.LawKit.callS X272 hx (y := xm22) hown (mvT hZ (tw172 hw)) (mvT hZ (tw173 hw)) (mvT hZ (tw174 hw)) (mvT hZ (tw175 hw)) (by decide) (backOf (W := 1) (rm_Arrays_copyOf_0 l Z a0 hw [] uu1 moa uu2 x167 x176 h265 n0 f295 M_moa f298 f299 f300) hZ (tw175 hw) (tw174 hw) (by decide) (by decide)) (g := (mkF m 48 #[vr b161, vr uu0, vr uu1] [(.ref moa), cv2, (.ref uu1), (.ref b161)])) rfl (by rw [hml]; rfl) (argsL := [(.ref uu1), cv2, (.ref moa)]) (rest := [(.ref b161)]) (lenOf pd_14 rfl) rfl (Nat.le_of_eq rfl) (hb hby d18_48) (fun _ _ => ⟨rfl, e272, (by decide : 1 + 1 ≤ _), (by decide : 2 + 2 ≤ _)⟩)
  dsimp only [Pt.U, Pt.locs, Pt.cells, Pt.slots] at X301 l301 y301 z301 st301 hQ301
  subst l301 y301 z301
  obtain ⟨uu3, uu4, rfl, N301q, K301, P301_0, P301_1, P301_2, P301_3⟩ := hQ301
  have N302 := Fr.app N267 N301q
  refine Go.step (fun _ k => st301 _ k) ?_
  show Go p e below s _ _ _ T301 (mkF m 51 #[vr b161, vr uu0, vr uu1] [(.ref uu3), (.ref b161)])
  have f303 := (((P227_1.keep K259 nin0).other W265 (Or.inr (slot_ne (Or.inl (tw187 hw)) (Or.inl (tw159 hw)) (by decide) (t := (.array (.object xs39))) (t' := .int) (by decide) (by decide)))).keep K301 nin0)
  have f304 := ((f264.wr W265).keep K301)
  obtain ⟨T305, h305, X305, e305, W305, st305⟩ := putF X301 hx hZ hown (host := "") (Or.inl (tw186 hw)) Via.refl rfl f303 f304 (Or.inl (tw187 hw)) (tw50 hw) (ty := (.array (.object xs39))) (by decide) rfl rfl (g := (mkF m 51 #[vr b161, vr uu0, vr uu1] [(.ref uu3), (.ref b161)])) rfl rfl (hb hby d18_51)
  have f306 := f303.same W305
  have N307 := Fr.snoc X305 N302 g_b161
  refine Go.step (fun _ k => st305 _ (XS.goto X305.here hx rfl (pc0 := 54) (pc' := 64) rfl (hb hby d18_54) (by decide) (by decide) k)) ?_
  show Go p e below s _ _ _ T305 (mkF m 64 #[vr b161, vr uu0, vr uu1] [])
  have f308 := ((((((Keep.refl h0 [b161]).trans K227 (allS (Or.inl (List.mem_of_getElem? (i := 0) rfl)) all0)).trans K259 all0).wr W265 (Or.inl (List.mem_of_getElem? (i := 0) rfl))).trans K301 all0).wr W305 (Or.inl (List.mem_of_getElem? (i := 0) rfl)))
  have f309 := ((((P227_0.keep K259 nin0).other W265 (Or.inr (slot_ne (Or.inl (tw143 hw)) (Or.inl (tw159 hw)) (by decide) (t := .int) (t' := .int) (by decide) (by decide)))).keep K301 nin0).other W305 (Or.inr (slot_ne (Or.inl (tw143 hw)) (Or.inl (tw187 hw)) (by decide) (t := .int) (t' := (.array (.object xs39))) (by decide) (by decide))))
  have f310 := ((f266.keep K301 nin0).other W305 (Or.inr (slot_ne (Or.inl (tw159 hw)) (Or.inl (tw187 hw)) (by decide) (t := .int) (t' := (.array (.object xs39))) (by decide) (by decide))))
  have f311 := (Nat.le_trans (Nat.le_trans (Nat.le_trans (Nat.le_refl _) K227.1) K259.1) (Keep.of_wr W265).1)
  have z312 := Nat.le_trans f311 P301_0
  have f313 := (P301_1.wr W305)
  have f314 := (f264.wr W265)
  have ne315 : b161 ≠ uu3 := Nat.ne_of_lt (Nat.lt_of_lt_of_le f314.lt P301_0)
  have f316 := (P301_2.other W305 (Ne.symm ne315))
  have f317 := (Nat.le_trans (Nat.le_trans (Nat.le_trans (Nat.le_trans (Nat.le_trans (Nat.le_refl _) K227.1) K259.1) (Keep.of_wr W265).1) K301.1) (Keep.of_wr W305).1)
  exact Go.retV X305 hx hlk Bd.returns (hb hby d18_64) e305 ⟨uu3, uu4, rfl, N307, f308, f309, f306, f310, z312, f313, f316, P301_3⟩ (by decide) (by decide)

theorem ef_Math_max_0 (m : MethodId) (x0 : Int32) (x1 : Int32) : entryFrame m #[(.int x0), (.int x1)] 2 = mkF m 0 #[vi x0, vi x1] [] := by first | (simp [entryFrame, mkF, argsToLocals, Value.category]; done) | rfl
def Q_Math_max_0 (Z : State) (n353 : Int32) (n354 : Int32) (h0 : Heap) (n0 : Nat) (v : Option Value) (h : Heap) (L : List Loc) : Prop := v = some (.int n353) ∧ Fr n0 L ∧ h = h0
set_option maxRecDepth 65536 in
set_option maxHeartbeats 40000000 in
theorem rm_Math_max_0 (l : Launch) (Z : State) (a0 : Array Value) (hw : ∀ d ∈ tables_1, d.before a0 Z = true) (ws : List Jvm.Cond) (n353 : Int32) (n354 : Int32) (h0 : Heap) (n0 : Nat) (Z0 : n0 ≤ h0.size) (d_355 : ¬ n353 < n354) :
    MetFree l xm19 (head1 (Jvm.Cond.code xm19 jdk_29_method_65_code 2 (some .int) :: ws) xr35) (fun a U => a = #[(.int n353), (.int n354)] ∧ Z.Warmed39 U.vm ∧ U.heap = h0) (fun _ _ _ _ _ => True) (fun _ U o U' => ∃ v L, o = .returned v ∧ Q_Math_max_0 Z n353 n354 h0 n0 v U'.heap L ∧ FrameEnd U o U' L xr35.cells xr35.slots) := by
  refine MetFree.of_bodySF (Jvm.Free.JP.mathPlain rfl (by decide +kernel)) hisR ?_
  intro p e s m args below meth c s₁ Bd hml0 hP hK
  obtain ⟨rfl, hZ, hh⟩ := hP
  have hx := Bd.exec
  have hby := Bd.bytes
  have hlk : meth.locks = false := BodyLoose.notSynchronized Bd
  have hml : c.maxLocals = 2 := hml0
  have hown : s.vm.findClass xs46 = some m.cls := findClass_of_methodNamed Bd.named
  have hnm := (name_of_methodNamed Bd.named Bd.method).1
  have X0 : Stand p l e xr35 s m #[(.int n353), (.int n354)] below meth c s₁ [] 0 0 := Stand.of_body Bd
  have e0 : s₁.heap = h0 := by rw [← hh, Bd.state]; rfl
  have N0 := Fr.nil n0
  show Go p e below s (Q_Math_max_0 Z n353 n354 h0 n0) xr35.cells xr35.slots s₁ (entryFrame m #[(.int n353), (.int n354)] 2)
  refine Go.cast (ef_Math_max_0 m n353 n354) ?_
  show Go p e below s _ _ _ s₁ (mkF m 0 #[vi n353, vi n354] [])
  refine Go.step (fun _ k => XS.iloadN X0.here hx rfl (hb hby d28_0) rfl (XS.iloadN X0.here hx rfl (hb hby d28_1) rfl (XS.icmpNo X0.here hx rfl (hb hby d28_2) rfl (flt d_355).1 (XS.iloadN X0.here hx rfl (hb hby d28_5) rfl (XS.goto X0.here hx rfl (pc0 := 6) (pc' := 10) rfl (hb hby d28_6) (by decide) (by decide) k))))) ?_
  show Go p e below s _ _ _ s₁ (mkF m 10 #[vi n353, vi n354] [(.int n353)])
  exact Go.retI X0 hx hlk Bd.returns (hb hby d28_10) e0 ⟨rfl, N0, rfl⟩ (by decide) (by decide)

theorem ef_ArraysSupport_newLength_0 (m : MethodId) (x0 : Int32) (x1 : Int32) (x2 : Int32) : entryFrame m #[(.int x0), (.int x1), (.int x2)] 4 = mkF m 0 #[vi x0, vi x1, vi x2, .unset] [] := by first | (simp [entryFrame, mkF, argsToLocals, Value.category]; done) | rfl
def Q_ArraysSupport_newLength_0 (Z : State)  (h0 : Heap) (n0 : Nat) (v : Option Value) (h : Heap) (L : List Loc) : Prop := v = some cv3 ∧ Fr n0 L ∧ h = h0
set_option maxRecDepth 65536 in
set_option maxHeartbeats 40000000 in
theorem rm_ArraysSupport_newLength_0 (l : Launch) (Z : State) (a0 : Array Value) (hw : ∀ d ∈ tables_1, d.before a0 Z = true) (ws : List Jvm.Cond)  (h0 : Heap) (n0 : Nat) (Z0 : n0 ≤ h0.size) :
    MetFree l xm1 (head1 (Jvm.Cond.code xm1 jdk_48_method_27_code 4 (some .int) :: ws) xr13) (fun a U => a = #[cv2, cv1, cv1] ∧ Z.Warmed39 U.vm ∧ U.heap = h0) (fun _ _ _ _ _ => True) (fun _ U o U' => ∃ v L, o = .returned v ∧ Q_ArraysSupport_newLength_0 Z  h0 n0 v U'.heap L ∧ FrameEnd U o U' L xr13.cells xr13.slots) := by
  refine MetFree.of_bodySF (plainFor_of_name pn_14) hisR ?_
  intro p e s m args below meth c s₁ Bd hml0 hP hK
  obtain ⟨rfl, hZ, hh⟩ := hP
  have hx := Bd.exec
  have hby := Bd.bytes
  have hlk : meth.locks = false := BodyLoose.notSynchronized Bd
  have hml : c.maxLocals = 4 := hml0
  have hown : s.vm.findClass xs24 = some m.cls := findClass_of_methodNamed Bd.named
  have hnm := (name_of_methodNamed Bd.named Bd.method).1
  have X0 : Stand p l e xr13 s m #[cv2, cv1, cv1] below meth c s₁ [] 0 0 := Stand.of_body Bd
  have e0 : s₁.heap = h0 := by rw [← hh, Bd.state]; rfl
  have N0 := Fr.nil n0
  show Go p e below s (Q_ArraysSupport_newLength_0 Z  h0 n0) xr13.cells xr13.slots s₁ (entryFrame m #[cv2, cv1, cv1] 4)
  refine Go.cast (ef_ArraysSupport_newLength_0 m ci2 ci1 ci1) ?_
  show Go p e below s _ _ _ s₁ (mkF m 0 #[.val cv2, .val cv1, .val cv1, .unset] [])
  refine Go.step (fun _ k => XS.iloadN X0.here hx rfl (hb hby d27_0) rfl (XS.iloadN X0.here hx rfl (hb hby d27_1) rfl (XS.iloadN X0.here hx rfl (hb hby d27_2) rfl k))) ?_
  show Go p e below s _ _ _ s₁ (mkF m 3 #[.val cv2, .val cv1, .val cv1, .unset] [cv1, cv1, cv2])
  obtain ⟨_, _, ⟨T356, L356, k356, n356⟩, -, X356, ⟨Lc356, hQ356, l356, y356, z356⟩, st356⟩ := Jvm.LawKit.callS X0 hx (y := xm19) hown (mvT hZ (tw225 hw)) (mvT hZ (tw226 hw)) (mvT hZ (tw180 hw)) (mvT hZ (tw227 hw)) (by decide) (backOf (W := 1) (rm_Math_max_0 l Z a0 hw [] ci1 ci1 h0 n0 Z0 (by decide)) hZ (tw227 hw) (tw180 hw) (by decide) (by decide)) (g := (mkF m 3 #[.val cv2, .val cv1, .val cv1, .unset] [cv1, cv1, cv2])) rfl (by rw [hml]; rfl) (argsL := [cv1, cv1]) (rest := [cv2]) (lenOf pd_13 rfl) rfl (Nat.le_of_eq rfl) (hb hby d27_3) (fun _ _ => ⟨rfl, e0, (by decide : 0 + 0 ≤ _), (by decide : 0 + 0 ≤ _)⟩)
  dsimp only [Pt.U, Pt.locs, Pt.cells, Pt.slots] at X356 l356 y356 z356 st356 hQ356
  subst l356 y356 z356
  obtain ⟨rfl, N356q, eq356⟩ := hQ356
  have N357 := Fr.app N0 N356q
  refine Go.step (fun _ k => st356 _ (XS.iadd X356.here hx rfl (hb hby d27_6) rfl (XS.istoreN X356.here hx rfl (hb hby d27_7) rfl (l' := #[.val cv2, .val cv1, .val cv1, .val cv3]) rfl (XS.iconst X356.here hx rfl (hb hby d27_8) (XS.iloadN X356.here hx rfl (hb hby d27_9) rfl (XS.icmpNo X356.here hx rfl (hb hby d27_10) rfl (tlt (by decide)).2.1 (XS.iloadN X356.here hx rfl (hb hby d27_13) rfl (X356.ldcInt hx hown (mvT hZ (tw228 hw)) (g := (mkF m 14 #[.val cv2, .val cv1, .val cv1, .val cv3] [cv3])) rfl (hb hby d27_14) _ (XS.icmpNo X356.here hx rfl (hb hby d27_16) rfl (flt (by decide)).2.2.1 (XS.iloadN X356.here hx rfl (hb hby d27_19) rfl k)))))))))) ?_
  show Go p e below s _ _ _ T356 (mkF m 20 #[.val cv2, .val cv1, .val cv1, .val cv3] [cv3])
  exact Go.retI X356 hx hlk Bd.returns (hb hby d27_20) eq356 ⟨rfl, N357, rfl⟩ (by decide) (by decide)

theorem ef_Arrays_copyOf_2 (m : MethodId) (x0 : Addr) (x1 : Int32) (x2 : Addr) : entryFrame m #[(.ref x0), (.int x1), (.ref x2)] 4 = mkF m 0 #[vr x0, vi x1, vr x2, .unset] [] := by first | (simp [entryFrame, mkF, argsToLocals, Value.category]; done) | rfl
def Q_Arrays_copyOf_2 (Z : State) (uu5 : Addr) (moa : Addr) (uu6 : ClassId) (x167 : Addr) (x176 : Addr) (h0 : Heap) (n0 : Nat) (v : Option Value) (h : Heap) (L : List Loc) : Prop := ∃ (b363 : Addr) (k363 : ClassId), v = some (.ref b363) ∧ Fr n0 L ∧ Keep h0 h [] ∧ h0.size ≤ b363 ∧ Exa Z h b363 xs34 ∧ Arv Z h b363 k363 (.object xs39) ci3 [(.ref x167), (.ref x176), .null] .null ∧ Ovr Z k363 xs39
set_option maxRecDepth 65536 in
set_option maxHeartbeats 40000000 in
theorem rm_Arrays_copyOf_2 (l : Launch) (Z : State) (a0 : Array Value) (hw : ∀ d ∈ tables_1, d.before a0 Z = true) (ws : List Jvm.Cond) (uu5 : Addr) (moa : Addr) (uu6 : ClassId) (x167 : Addr) (x176 : Addr) (h0 : Heap) (n0 : Nat) (Z0 : n0 ≤ h0.size) (M_moa : Mir Z xs34 moa) (V_b274_301_325 : Arv Z h0 uu5 uu6 (.object xs39) ci2 [(.ref x167), (.ref x176)] .null) (E_x176 : Exa Z h0 x176 xs17) (E_x167 : Exa Z h0 x167 xs17) :
    MetFree l xm22 (head1 (Jvm.Cond.code xm22 jdk_65_method_120_code 4 (some (.array (.object xs39))) :: ws) xr14) (fun a U => a = #[(.ref uu5), cv3, (.ref moa)] ∧ Z.Warmed39 U.vm ∧ U.heap = h0) (fun _ _ _ _ _ => True) (fun _ U o U' => ∃ v L, o = .returned v ∧ Q_Arrays_copyOf_2 Z uu5 moa uu6 x167 x176 h0 n0 v U'.heap L ∧ FrameEnd U o U' L xr14.cells xr14.slots) := by
  refine MetFree.of_bodySF (plainFor_of_name pn_12) hisR ?_
  intro p e s m args below meth c s₁ Bd hml0 hP hK
  obtain ⟨rfl, hZ, hh⟩ := hP
  have hx := Bd.exec
  have hby := Bd.bytes
  have hlk : meth.locks = false := BodyLoose.notSynchronized Bd
  have hml : c.maxLocals = 4 := hml0
  have hown : s.vm.findClass xs42 = some m.cls := findClass_of_methodNamed Bd.named
  have hnm := (name_of_methodNamed Bd.named Bd.method).1
  have X0 : Stand p l e xr14 s m #[(.ref uu5), cv3, (.ref moa)] below meth c s₁ [] 0 0 := Stand.of_body Bd
  have e0 : s₁.heap = h0 := by rw [← hh, Bd.state]; rfl
  have N0 := Fr.nil n0
  show Go p e below s (Q_Arrays_copyOf_2 Z uu5 moa uu6 x167 x176 h0 n0) xr14.cells xr14.slots s₁ (entryFrame m #[(.ref uu5), cv3, (.ref moa)] 4)
  refine Go.cast (ef_Arrays_copyOf_2 m uu5 ci3 moa) ?_
  show Go p e below s _ _ _ s₁ (mkF m 0 #[vr uu5, .val cv3, vr moa, .unset] [])
  refine Go.step (fun _ k => XS.aloadN X0.here hx rfl (hb hby d21_0) rfl rfl k) ?_
  show Go p e below s _ _ _ s₁ (mkF m 1 #[vr uu5, .val cv3, vr moa, .unset] [(.ref moa)])
  obtain ⟨T362, X362, e362, st362⟩ := own_ldcM X0 hx hZ hown (tw176 hw) e0 M_moa (g := (mkF m 1 #[vr uu5, .val cv3, vr moa, .unset] [(.ref moa)])) rfl (hb hby d21_1)
  refine Go.step (fun _ k => st362 _ (Jvm.RoadKit.acmp (g := (mkF m 3 #[vr uu5, .val cv3, vr moa, .unset] [(.ref moa), (.ref moa)])) X362 hx rfl rfl rfl (pc0 := 3) (pc' := 6) (same := true) rfl (hb hby d21_3) rfl (decide_eq_true rfl) (by decide) (by decide) (XS.iloadN X362.here hx rfl (hb hby d21_6) rfl k))) ?_
  show Go p e below s _ _ _ T362 (mkF m 7 #[vr uu5, .val cv3, vr moa, .unset] [cv3])
  obtain ⟨T363, h363, k363, X363, e363, E363, A363, D363, O363, st363⟩ := newRE X362 hx hZ hown (tw177 hw) (tw156 hw) e362 (g := (mkF m 7 #[vr uu5, .val cv3, vr moa, .unset] [cv3])) rfl (hb hby d21_7) rfl (by decide) (cap := 3) (by decide) (by decide) (by decide) (by decide) (ad := xs34) (by decide)
  obtain ⟨b363, g363⟩ : ∃ z, z = h0.size := ⟨_, rfl⟩
  rw [← g363] at A363 D363 st363
  have f364 : Arv Z h363 b363 k363 (.object xs39) ci3 [.null, .null, .null] .null := (Arv.new A363 (by decide)).pad (pad_rep [] .null 3)
  refine Go.step (fun _ k => st363 _ (XS.goto X363.here hx rfl (pc0 := 10) (pc' := 24) rfl (hb hby d21_10) (by decide) (by decide) (XS.astoreN X363.here hx rfl (hb hby d21_24) rfl rfl (l' := #[vr uu5, .val cv3, vr moa, vr b363]) rfl (XS.aloadN X363.here hx rfl (hb hby d21_25) rfl rfl (XS.iconst X363.here hx rfl (hb hby d21_26) (XS.aloadN X363.here hx rfl (hb hby d21_27) rfl rfl (XS.iconst X363.here hx rfl (hb hby d21_28) (XS.aloadN X363.here hx rfl (hb hby d21_29) rfl rfl k)))))))) ?_
  show Go p e below s _ _ _ T363 (mkF m 30 #[vr uu5, .val cv3, vr moa, vr b363] [(.ref uu5), cv0, (.ref b363), cv0, (.ref uu5)])
  have f365 := (V_b274_301_325.ext E363)
  obtain ⟨cl366, Ar366, -, Sz366, Ng366, -, -⟩ := id f365
  have aln366 := X363.arraylength hx (by rw [e363]; exact Ar366.1) (State.isArrayOf_alike hZ.alike Ar366.2.1) (g := (mkF m 30 #[vr uu5, .val cv3, vr moa, vr b363] [(.ref uu5), cv0, (.ref b363), cv0, (.ref uu5)])) rfl rfl (hb hby d21_30)
  rw [len_of Sz366 Ng366] at aln366
  refine Go.step (fun _ k => aln366 _ (XS.iloadN X363.here hx rfl (hb hby d21_31) rfl k)) ?_
  show Go p e below s _ _ _ T363 (mkF m 32 #[vr uu5, .val cv3, vr moa, vr b363] [cv3, cv2, cv0, (.ref b363), cv0, (.ref uu5)])
  have f367 := (Nat.le_trans Z0 E363.1)
  obtain ⟨_, _, ⟨T368, L368, k368, n368⟩, -, X368, ⟨Lc368, hQ368, l368, y368, z368⟩, st368⟩ := Jvm.LawKit.callS X363 hx (y := xm17) hown (mvT hZ (tw178 hw)) (mvT hZ (tw179 hw)) (mvT hZ (tw180 hw)) (mvT hZ (tw181 hw)) (by decide) (backOf (W := 4) (rm_Math_min_0 l Z a0 hw [] ci2 ci3 h363 n0 f367 (by decide)) hZ (tw181 hw) (tw180 hw) (by decide) (by decide)) (g := (mkF m 32 #[vr uu5, .val cv3, vr moa, vr b363] [cv3, cv2, cv0, (.ref b363), cv0, (.ref uu5)])) rfl (by rw [hml]; rfl) (argsL := [cv2, cv3]) (rest := [cv0, (.ref b363), cv0, (.ref uu5)]) (lenOf pd_13 rfl) rfl (Nat.le_of_eq rfl) (hb hby d21_32) (fun _ _ => ⟨rfl, e363, (by decide : 1 + 0 ≤ _), (by decide : 3 + 0 ≤ _)⟩)
  dsimp only [Pt.U, Pt.locs, Pt.cells, Pt.slots] at X368 l368 y368 z368 st368 hQ368
  subst l368 y368 z368
  obtain ⟨rfl, N368q, eq368⟩ := hQ368
  have N369 := Fr.app N0 N368q
  refine Go.step (fun _ k => st368 _ k) ?_
  show Go p e below s _ _ _ T368 (mkF m 35 #[vr uu5, .val cv3, vr moa, vr b363] [cv2, cv0, (.ref b363), cv0, (.ref uu5)])
  have g371 := Nat.le_trans Z0 (Nat.le_of_eq g363.symm)
  obtain ⟨cl372, Ar372, qq372, -⟩ := id f364
  have f373 := (E_x176.ext E363)
  obtain ⟨cl374, Ar374, qq374, -⟩ := id f364
  have f375 := (E_x167.ext E363)
  obtain ⟨T370, h370, L370, X370, e370, N370, K370, V370, st370⟩ := cpA X368 hx hZ hown (tw182 hw) (tw185 hw) (tw183 hw) (tw184 hw) eq368 f365 f364 (us := [(.ref x167), (.ref x176)]) (Or.inr ⟨rfl, rfl, (And.intro (Sto.ofV Ar374 qq374 O363 (Ins.of_exa f375 (tw157 hw))) (And.intro (Sto.ofV Ar372 qq372 O363 (Ins.of_exa f373 (tw157 hw))) trivial))⟩) (by decide) (by decide) (by decide) (by decide) (by decide) rfl (Nat.le_of_ble_eq_true rfl) N369 g371 (g := (mkF m 35 #[vr uu5, .val cv3, vr moa, vr b363] [cv2, cv0, (.ref b363), cv0, (.ref uu5)])) rfl (by rw [hml]; rfl) rfl (hb hby d21_35) (by decide) (W := 0) (Nat.le_of_eq rfl) (by decide)
  have f376 : Arv Z h370 b363 k363 (.object xs39) ci3 [(.ref x167), (.ref x176), .null] .null := V370
  refine Go.step (fun _ k => st370 _ (XS.aloadN X370.here hx rfl (hb hby d21_38) rfl rfl k)) ?_
  show Go p e below s _ _ _ T370 (mkF m 39 #[vr uu5, .val cv3, vr moa, vr b363] [(.ref b363)])
  have z377 := Nat.le_trans (Nat.le_refl _) (Nat.le_of_eq g363.symm)
  have f378 := (((Keep.refl h0 []).ext E363).trans K370 (allS (Or.inr z377) all0))
  have f379 := (D363.keep K370)
  have f380 := (Nat.le_trans (Nat.le_trans (Nat.le_refl _) E363.1) K370.1)
  exact Go.retA X370 hx hlk Bd.returns rfl rfl (hb hby d21_39) e370 ⟨b363, k363, rfl, N370, f378, z377, f379, f376, O363⟩ (by decide) (by decide)

theorem ef_Arrays_copyOf_1 (m : MethodId) (x0 : Addr) (x1 : Int32) : entryFrame m #[(.ref x0), (.int x1)] 2 = mkF m 0 #[vr x0, vi x1] [] := by first | (simp [entryFrame, mkF, argsToLocals, Value.category]; done) | rfl
def Q_Arrays_copyOf_1 (Z : State) (uu5 : Addr) (moa : Addr) (uu6 : ClassId) (x167 : Addr) (x176 : Addr) (h0 : Heap) (n0 : Nat) (v : Option Value) (h : Heap) (L : List Loc) : Prop := ∃ (uu7 : Addr) (uu8 : ClassId), v = some (.ref uu7) ∧ Fr n0 L ∧ Keep h0 h [] ∧ h0.size ≤ uu7 ∧ Exa Z h uu7 xs34 ∧ Arv Z h uu7 uu8 (.object xs39) ci3 [(.ref x167), (.ref x176), .null] .null ∧ Ovr Z uu8 xs39
set_option maxRecDepth 65536 in
set_option maxHeartbeats 40000000 in
theorem rm_Arrays_copyOf_1 (l : Launch) (Z : State) (a0 : Array Value) (hw : ∀ d ∈ tables_1, d.before a0 Z = true) (ws : List Jvm.Cond) (uu5 : Addr) (moa : Addr) (uu6 : ClassId) (x167 : Addr) (x176 : Addr) (h0 : Heap) (n0 : Nat) (Z0 : n0 ≤ h0.size) (E_b274_301_325 : Exa Z h0 uu5 xs34) (M_moa : Mir Z xs34 moa) (V_b274_301_325 : Arv Z h0 uu5 uu6 (.object xs39) ci2 [(.ref x167), (.ref x176)] .null) (E_x176 : Exa Z h0 x176 xs17) (E_x167 : Exa Z h0 x167 xs17) :
    MetFree l xm20 (head1 (Jvm.Cond.code xm20 jdk_65_method_119_code 2 (some (.array (.object xs39))) :: ws) xr15) (fun a U => a = #[(.ref uu5), cv3] ∧ Z.Warmed39 U.vm ∧ U.heap = h0) (fun _ _ _ _ _ => True) (fun _ U o U' => ∃ v L, o = .returned v ∧ Q_Arrays_copyOf_1 Z uu5 moa uu6 x167 x176 h0 n0 v U'.heap L ∧ FrameEnd U o U' L xr15.cells xr15.slots) := by
  refine MetFree.of_bodySF (plainFor_of_name pn_12) hisR ?_
  intro p e s m args below meth c s₁ Bd hml0 hP hK
  obtain ⟨rfl, hZ, hh⟩ := hP
  have hx := Bd.exec
  have hby := Bd.bytes
  have hlk : meth.locks = false := BodyLoose.notSynchronized Bd
  have hml : c.maxLocals = 2 := hml0
  have hown : s.vm.findClass xs42 = some m.cls := findClass_of_methodNamed Bd.named
  have hnm := (name_of_methodNamed Bd.named Bd.method).1
  have X0 : Stand p l e xr15 s m #[(.ref uu5), cv3] below meth c s₁ [] 0 0 := Stand.of_body Bd
  have e0 : s₁.heap = h0 := by rw [← hh, Bd.state]; rfl
  have N0 := Fr.nil n0
  show Go p e below s (Q_Arrays_copyOf_1 Z uu5 moa uu6 x167 x176 h0 n0) xr15.cells xr15.slots s₁ (entryFrame m #[(.ref uu5), cv3] 2)
  refine Go.cast (ef_Arrays_copyOf_1 m uu5 ci3) ?_
  show Go p e below s _ _ _ s₁ (mkF m 0 #[vr uu5, .val cv3] [])
  refine Go.step (fun _ k => XS.aloadN X0.here hx rfl (hb hby d29_0) rfl rfl (XS.iloadN X0.here hx rfl (hb hby d29_1) rfl (XS.aloadN X0.here hx rfl (hb hby d29_2) rfl rfl k))) ?_
  show Go p e below s _ _ _ s₁ (mkF m 3 #[vr uu5, .val cv3] [(.ref uu5), cv3, (.ref uu5)])
  obtain ⟨T361, X361, e361, st361⟩ := own_gcV X0 hx hZ hown (tw232 hw) (tw161 hw) (tw233 hw) (tw164 hw) (tw167 hw) e0 E_b274_301_325 M_moa (g := (mkF m 3 #[vr uu5, .val cv3] [(.ref uu5), cv3, (.ref uu5)])) rfl (by rw [hml]; rfl) rfl (hb hby d29_3) (by decide) (W := 2) (Nat.le_of_eq rfl) (by decide)
  refine Go.step (fun _ k => st361 _ k) ?_
  show Go p e below s _ _ _ T361 (mkF m 6 #[vr uu5, .val cv3] [(.ref moa), cv3, (.ref uu5)])
  obtain ⟨_, _, ⟨T381, L381, k381, n381⟩, -, X381, ⟨Lc381, hQ381, l381, y381, z381⟩, st381⟩ := Jvm.LawKit.callS X361 hx (y := xm22) hown (mvT hZ (tw234 hw)) (mvT hZ (tw173 hw)) (mvT hZ (tw174 hw)) (mvT hZ (tw175 hw)) (by decide) (backOf (W := 0) (rm_Arrays_copyOf_2 l Z a0 hw [] uu5 moa uu6 x167 x176 h0 n0 Z0 M_moa V_b274_301_325 E_x176 E_x167) hZ (tw175 hw) (tw174 hw) (by decide) (by decide)) (g := (mkF m 6 #[vr uu5, .val cv3] [(.ref moa), cv3, (.ref uu5)])) rfl (by rw [hml]; rfl) (argsL := [(.ref uu5), cv3, (.ref moa)]) (rest := []) (lenOf pd_14 rfl) rfl (Nat.le_of_eq rfl) (hb hby d29_6) (fun _ _ => ⟨rfl, e361, (by decide : 0 + 1 ≤ _), (by decide : 0 + 3 ≤ _)⟩)
  dsimp only [Pt.U, Pt.locs, Pt.cells, Pt.slots] at X381 l381 y381 z381 st381 hQ381
  subst l381 y381 z381
  obtain ⟨uu7, uu8, rfl, N381q, K381, P381_0, P381_1, P381_2, P381_3⟩ := hQ381
  have N382 := Fr.app N0 N381q
  refine Go.step (fun _ k => st381 _ k) ?_
  show Go p e below s _ _ _ T381 (mkF m 9 #[vr uu5, .val cv3] [(.ref uu7)])
  have f383 := ((Keep.refl h0 []).trans K381 all0)
  have z384 := Nat.le_trans (Nat.le_refl _) P381_0
  have f385 := (Nat.le_trans (Nat.le_refl _) K381.1)
  exact Go.retA X381 hx hlk Bd.returns rfl rfl (hb hby d29_9) rfl ⟨uu7, uu8, rfl, N382, f383, z384, P381_1, P381_2, P381_3⟩ (by decide) (by decide)

theorem ef_ArrayList_grow_1 (m : MethodId) (x0 : Addr) (x1 : Int32) : entryFrame m #[(.ref x0), (.int x1)] 4 = mkF m 0 #[vr x0, vi x1, .unset, .unset] [] := by first | (simp [entryFrame, mkF, argsToLocals, Value.category]; done) | rfl
def Q_ArrayList_grow_1 (Z : State) (b161 : Addr) (uu5 : Addr) (uu6 : ClassId) (x167 : Addr) (x176 : Addr) (moa : Addr) (h0 : Heap) (n0 : Nat) (v : Option Value) (h : Heap) (L : List Loc) : Prop := ∃ (uu9 : Addr) (uu10 : ClassId), v = some (.ref uu9) ∧ Fr n0 L ∧ Keep h0 h [b161] ∧ Fld Z h b161 xs35 "elementData" xs34 (.ref uu9) ∧ Fld Z h b161 xs29 "modCount" "I" cv1 ∧ Fld Z h b161 xs35 "size" "I" cv2 ∧ h0.size ≤ uu9 ∧ Exa Z h uu9 xs34 ∧ Arv Z h uu9 uu10 (.object xs39) ci3 [(.ref x167), (.ref x176), .null] .null ∧ Ovr Z uu10 xs39
set_option maxRecDepth 65536 in
set_option maxHeartbeats 40000000 in
theorem rm_ArrayList_grow_1 (l : Launch) (Z : State) (a0 : Array Value) (hw : ∀ d ∈ tables_1, d.before a0 Z = true) (ws : List Jvm.Cond) (b161 : Addr) (uu5 : Addr) (uu6 : ClassId) (x167 : Addr) (x176 : Addr) (moa : Addr) (h0 : Heap) (n0 : Nat) (Z0 : n0 ≤ h0.size) (F_elementData_b161 : Fld Z h0 b161 xs35 "elementData" xs34 (.ref uu5)) (V_b274_301_325 : Arv Z h0 uu5 uu6 (.object xs39) ci2 [(.ref x167), (.ref x176)] .null) (E_b274_301_325 : Exa Z h0 uu5 xs34) (M_moa : Mir Z xs34 moa) (E_x176 : Exa Z h0 x176 xs17) (E_x167 : Exa Z h0 x167 xs17) (E_b161 : Exa Z h0 b161 xs35) (g_b161 : n0 ≤ b161) (F_modCount_b161 : Fld Z h0 b161 xs29 "modCount" "I" cv1) (F_size_b161 : Fld Z h0 b161 xs35 "size" "I" cv2) :
    MetFree l xm26 (head1 (Jvm.Cond.code xm26 jdk_38_method_6_code 4 (some (.array (.object xs39))) :: ws) xr16) (fun a U => a = #[(.ref b161), cv3] ∧ Z.Warmed39 U.vm ∧ U.heap = h0) (fun _ _ _ _ _ => True) (fun _ U o U' => ∃ v L, o = .returned v ∧ Q_ArrayList_grow_1 Z b161 uu5 uu6 x167 x176 moa h0 n0 v U'.heap L ∧ FrameEnd U o U' L xr16.cells xr16.slots) := by
  refine MetFree.of_bodySF (plainFor_of_name pn_13) hisR ?_
  intro p e s m args below meth c s₁ Bd hml0 hP hK
  obtain ⟨rfl, hZ, hh⟩ := hP
  have hx := Bd.exec
  have hby := Bd.bytes
  have hlk : meth.locks = false := BodyLoose.notSynchronized Bd
  have hml : c.maxLocals = 4 := hml0
  have hown : s.vm.findClass xs35 = some m.cls := findClass_of_methodNamed Bd.named
  have hnm := (name_of_methodNamed Bd.named Bd.method).1
  have X0 : Stand p l e xr16 s m #[(.ref b161), cv3] below meth c s₁ [] 0 0 := Stand.of_body Bd
  have e0 : s₁.heap = h0 := by rw [← hh, Bd.state]; rfl
  have N0 := Fr.nil n0
  show Go p e below s (Q_ArrayList_grow_1 Z b161 uu5 uu6 x167 x176 moa h0 n0) xr16.cells xr16.slots s₁ (entryFrame m #[(.ref b161), cv3] 4)
  refine Go.cast (ef_ArrayList_grow_1 m b161 ci3) ?_
  show Go p e below s _ _ _ s₁ (mkF m 0 #[vr b161, .val cv3, .unset, .unset] [])
  refine Go.step (fun _ k => XS.aloadN X0.here hx rfl (hb hby d26_0) rfl rfl k) ?_
  show Go p e below s _ _ _ s₁ (mkF m 1 #[vr b161, .val cv3, .unset, .unset] [(.ref b161)])
  obtain ⟨T351, X351, e351, st351⟩ := getF X0 hx hZ hown (host := "") (Or.inl (tw186 hw)) Via.refl e0 F_elementData_b161 (g := (mkF m 1 #[vr b161, .val cv3, .unset, .unset] [(.ref b161)])) rfl rfl (hb hby d26_1)
  refine Go.step (fun _ k => st351 _ k) ?_
  show Go p e below s _ _ _ T351 (mkF m 4 #[vr b161, .val cv3, .unset, .unset] [(.ref uu5)])
  obtain ⟨cl352, Ar352, -, Sz352, Ng352, -, -⟩ := id V_b274_301_325
  have aln352 := X351.arraylength hx (by rw [e351]; exact Ar352.1) (State.isArrayOf_alike hZ.alike Ar352.2.1) (g := (mkF m 4 #[vr b161, .val cv3, .unset, .unset] [(.ref uu5)])) rfl rfl (hb hby d26_4)
  rw [len_of Sz352 Ng352] at aln352
  refine Go.step (fun _ k => aln352 _ (XS.istoreN X351.here hx rfl (hb hby d26_5) rfl (l' := #[vr b161, .val cv3, .val cv2, .unset]) rfl (XS.iloadN X351.here hx rfl (hb hby d26_6) rfl (XS.ifYes X351.here hx rfl (pc0 := 7) (pc' := 20) rfl (hb hby d26_7) rfl ((if0 _ _).trans (tlt (by decide)).2.2.1) (by decide) (by decide) (XS.iloadN X351.here hx rfl (hb hby d26_20) rfl (XS.iloadN X351.here hx rfl (hb hby d26_21) rfl (XS.iloadN X351.here hx rfl (hb hby d26_22) rfl (XS.isub X351.here hx rfl (hb hby d26_23) rfl (XS.iloadN X351.here hx rfl (hb hby d26_24) rfl (XS.iconst X351.here hx rfl (hb hby d26_25) k)))))))))) ?_
  show Go p e below s _ _ _ T351 (mkF m 26 #[vr b161, .val cv3, .val cv2, .unset] [cv1, cv2, cv1, cv2])
  refine Go.step (fun _ k => XS.ishr X351.here hx rfl (hb hby d26_26) rfl k) ?_
  show Go p e below s _ _ _ T351 (mkF m 27 #[vr b161, .val cv3, .val cv2, .unset] [cv1, cv1, cv2])
  obtain ⟨_, _, ⟨T358, L358, k358, n358⟩, -, X358, ⟨Lc358, hQ358, l358, y358, z358⟩, st358⟩ := Jvm.LawKit.callS X351 hx (y := xm1) hown (mvT hZ (tw221 hw)) (mvT hZ (tw222 hw)) (mvT hZ (tw223 hw)) (mvT hZ (tw224 hw)) (by decide) (backOf (W := 0) (rm_ArraysSupport_newLength_0 l Z a0 hw []  h0 n0 Z0) hZ (tw224 hw) (tw223 hw) (by decide) (by decide)) (g := (mkF m 27 #[vr b161, .val cv3, .val cv2, .unset] [cv1, cv1, cv2])) rfl (by rw [hml]; rfl) (argsL := [cv2, cv1, cv1]) (rest := []) (lenOf pd_17 rfl) rfl (Nat.le_of_eq rfl) (hb hby d26_27) (fun _ _ => ⟨rfl, e351, (by decide : 0 + 0 ≤ _), (by decide : 0 + 0 ≤ _)⟩)
  dsimp only [Pt.U, Pt.locs, Pt.cells, Pt.slots] at X358 l358 y358 z358 st358 hQ358
  subst l358 y358 z358
  obtain ⟨rfl, N358q, eq358⟩ := hQ358
  have N359 := Fr.app N0 N358q
  refine Go.step (fun _ k => st358 _ (XS.istoreN X358.here hx rfl (hb hby d26_30) rfl (l' := #[vr b161, .val cv3, .val cv2, .val cv3]) rfl (XS.aloadN X358.here hx rfl (hb hby d26_31) rfl rfl (XS.aloadN X358.here hx rfl (hb hby d26_32) rfl rfl k)))) ?_
  show Go p e below s _ _ _ T358 (mkF m 33 #[vr b161, .val cv3, .val cv2, .val cv3] [(.ref b161), (.ref b161)])
  obtain ⟨T360, X360, e360, st360⟩ := getF X358 hx hZ hown (host := "") (Or.inl (tw186 hw)) Via.refl eq358 F_elementData_b161 (g := (mkF m 33 #[vr b161, .val cv3, .val cv2, .val cv3] [(.ref b161), (.ref b161)])) rfl rfl (hb hby d26_33)
  refine Go.step (fun _ k => st360 _ (XS.iloadN X360.here hx rfl (hb hby d26_36) rfl k)) ?_
  show Go p e below s _ _ _ T360 (mkF m 37 #[vr b161, .val cv3, .val cv2, .val cv3] [cv3, (.ref uu5), (.ref b161)])
  obtain ⟨_, _, ⟨T386, L386, k386, n386⟩, -, X386, ⟨Lc386, hQ386, l386, y386, z386⟩, st386⟩ := Jvm.LawKit.callS X360 hx (y := xm20) hown (mvT hZ (tw229 hw)) (mvT hZ (tw230 hw)) (mvT hZ (tw174 hw)) (mvT hZ (tw231 hw)) (by decide) (backOf (W := 1) (rm_Arrays_copyOf_1 l Z a0 hw [] uu5 moa uu6 x167 x176 h0 n0 Z0 E_b274_301_325 M_moa V_b274_301_325 E_x176 E_x167) hZ (tw231 hw) (tw174 hw) (by decide) (by decide)) (g := (mkF m 37 #[vr b161, .val cv3, .val cv2, .val cv3] [cv3, (.ref uu5), (.ref b161)])) rfl (by rw [hml]; rfl) (argsL := [(.ref uu5), cv3]) (rest := [(.ref b161)]) (lenOf pd_18 rfl) rfl (Nat.le_of_eq rfl) (hb hby d26_37) (fun _ _ => ⟨rfl, e360, (by decide : 0 + 1 ≤ _), (by decide : 0 + 3 ≤ _)⟩)
  dsimp only [Pt.U, Pt.locs, Pt.cells, Pt.slots] at X386 l386 y386 z386 st386 hQ386
  subst l386 y386 z386
  obtain ⟨uu9, uu10, rfl, N386q, K386, P386_0, P386_1, P386_2, P386_3⟩ := hQ386
  have N387 := Fr.app N359 N386q
  refine Go.step (fun _ k => st386 _ (XS.dupX1 X386.here hx rfl (hb hby d26_40) rfl rfl rfl k)) ?_
  show Go p e below s _ _ _ T386 (mkF m 41 #[vr b161, .val cv3, .val cv2, .val cv3] [(.ref uu9), (.ref b161), (.ref uu9)])
  have f388 := (F_elementData_b161.keep K386 nin0)
  have f389 := (E_b161.keep K386)
  obtain ⟨T390, h390, X390, e390, W390, st390⟩ := putF X386 hx hZ hown (host := "") (Or.inl (tw186 hw)) Via.refl rfl f388 f389 (Or.inl (tw187 hw)) (tw50 hw) (ty := (.array (.object xs39))) (by decide) rfl rfl (g := (mkF m 41 #[vr b161, .val cv3, .val cv2, .val cv3] [(.ref uu9), (.ref b161), (.ref uu9)])) rfl rfl (hb hby d26_41)
  have f391 := f388.same W390
  have N392 := Fr.snoc X390 N387 g_b161
  refine Go.step (fun _ k => st390 _ k) ?_
  show Go p e below s _ _ _ T390 (mkF m 44 #[vr b161, .val cv3, .val cv2, .val cv3] [(.ref uu9)])
  have f393 := (((Keep.refl h0 [b161]).trans K386 all0).wr W390 (Or.inl (List.mem_of_getElem? (i := 0) rfl)))
  have f394 := ((F_modCount_b161.keep K386 nin0).other W390 (Or.inr (slot_ne (Or.inl (tw143 hw)) (Or.inl (tw187 hw)) (by decide) (t := .int) (t' := (.array (.object xs39))) (by decide) (by decide))))
  have f395 := ((F_size_b161.keep K386 nin0).other W390 (Or.inr (slot_ne (Or.inl (tw159 hw)) (Or.inl (tw187 hw)) (by decide) (t := .int) (t' := (.array (.object xs39))) (by decide) (by decide))))
  have z396 := Nat.le_trans (Nat.le_refl _) P386_0
  have f397 := (P386_1.wr W390)
  have ne398 : b161 ≠ uu9 := Nat.ne_of_lt (Nat.lt_of_lt_of_le E_b161.lt P386_0)
  have f399 := (P386_2.other W390 (Ne.symm ne398))
  have f400 := (Nat.le_trans (Nat.le_trans (Nat.le_refl _) K386.1) (Keep.of_wr W390).1)
  exact Go.retA X390 hx hlk Bd.returns rfl rfl (hb hby d26_44) e390 ⟨uu9, uu10, rfl, N392, f393, f391, f394, f395, z396, f397, f399, P386_3⟩ (by decide) (by decide)

theorem ef_ArrayList_grow_0 (m : MethodId) (x0 : Addr) : entryFrame m #[(.ref x0)] 1 = mkF m 0 #[vr x0] [] := by first | (simp [entryFrame, mkF, argsToLocals, Value.category]; done) | rfl
def Q_ArrayList_grow_0 (Z : State) (b161 : Addr) (uu5 : Addr) (uu6 : ClassId) (x167 : Addr) (x176 : Addr) (moa : Addr) (h0 : Heap) (n0 : Nat) (v : Option Value) (h : Heap) (L : List Loc) : Prop := ∃ (uu11 : Addr) (uu12 : ClassId), v = some (.ref uu11) ∧ Fr n0 L ∧ Keep h0 h [b161] ∧ Fld Z h b161 xs35 "size" "I" cv2 ∧ Fld Z h b161 xs35 "elementData" xs34 (.ref uu11) ∧ Fld Z h b161 xs29 "modCount" "I" cv1 ∧ h0.size ≤ uu11 ∧ Exa Z h uu11 xs34 ∧ Arv Z h uu11 uu12 (.object xs39) ci3 [(.ref x167), (.ref x176), .null] .null ∧ Ovr Z uu12 xs39
set_option maxRecDepth 65536 in
set_option maxHeartbeats 40000000 in
theorem rm_ArrayList_grow_0 (l : Launch) (Z : State) (a0 : Array Value) (hw : ∀ d ∈ tables_1, d.before a0 Z = true) (ws : List Jvm.Cond) (b161 : Addr) (uu5 : Addr) (uu6 : ClassId) (x167 : Addr) (x176 : Addr) (moa : Addr) (h0 : Heap) (n0 : Nat) (Z0 : n0 ≤ h0.size) (F_size_b161 : Fld Z h0 b161 xs35 "size" "I" cv2) (F_elementData_b161 : Fld Z h0 b161 xs35 "elementData" xs34 (.ref uu5)) (V_b274_301_325 : Arv Z h0 uu5 uu6 (.object xs39) ci2 [(.ref x167), (.ref x176)] .null) (E_b274_301_325 : Exa Z h0 uu5 xs34) (M_moa : Mir Z xs34 moa) (E_x176 : Exa Z h0 x176 xs17) (E_x167 : Exa Z h0 x167 xs17) (E_b161 : Exa Z h0 b161 xs35) (g_b161 : n0 ≤ b161) (F_modCount_b161 : Fld Z h0 b161 xs29 "modCount" "I" cv1) :
    MetFree l xm27 (head1 (Jvm.Cond.code xm27 jdk_38_method_7_code 1 (some (.array (.object xs39))) :: ws) xr17) (fun a U => a = #[(.ref b161)] ∧ Z.Warmed39 U.vm ∧ U.heap = h0) (fun _ _ _ _ _ => True) (fun _ U o U' => ∃ v L, o = .returned v ∧ Q_ArrayList_grow_0 Z b161 uu5 uu6 x167 x176 moa h0 n0 v U'.heap L ∧ FrameEnd U o U' L xr17.cells xr17.slots) := by
  refine MetFree.of_bodySF (plainFor_of_name pn_13) hisR ?_
  intro p e s m args below meth c s₁ Bd hml0 hP hK
  obtain ⟨rfl, hZ, hh⟩ := hP
  have hx := Bd.exec
  have hby := Bd.bytes
  have hlk : meth.locks = false := BodyLoose.notSynchronized Bd
  have hml : c.maxLocals = 1 := hml0
  have hown : s.vm.findClass xs35 = some m.cls := findClass_of_methodNamed Bd.named
  have hnm := (name_of_methodNamed Bd.named Bd.method).1
  have X0 : Stand p l e xr17 s m #[(.ref b161)] below meth c s₁ [] 0 0 := Stand.of_body Bd
  have e0 : s₁.heap = h0 := by rw [← hh, Bd.state]; rfl
  have N0 := Fr.nil n0
  show Go p e below s (Q_ArrayList_grow_0 Z b161 uu5 uu6 x167 x176 moa h0 n0) xr17.cells xr17.slots s₁ (entryFrame m #[(.ref b161)] 1)
  refine Go.cast (ef_ArrayList_grow_0 m b161) ?_
  show Go p e below s _ _ _ s₁ (mkF m 0 #[vr b161] [])
  refine Go.step (fun _ k => XS.aloadN X0.here hx rfl (hb hby d25_0) rfl rfl (XS.aloadN X0.here hx rfl (hb hby d25_1) rfl rfl k)) ?_
  show Go p e below s _ _ _ s₁ (mkF m 2 #[vr b161] [(.ref b161), (.ref b161)])
  obtain ⟨T350, X350, e350, st350⟩ := getF X0 hx hZ hown (host := "") (Or.inl (tw158 hw)) Via.refl e0 F_size_b161 (g := (mkF m 2 #[vr b161] [(.ref b161), (.ref b161)])) rfl rfl (hb hby d25_2)
  refine Go.step (fun _ k => st350 _ (XS.iconst X350.here hx rfl (hb hby d25_5) (XS.iadd X350.here hx rfl (hb hby d25_6) rfl k))) ?_
  show Go p e below s _ _ _ T350 (mkF m 7 #[vr b161] [cv3, (.ref b161)])
  obtain ⟨cq401, q401, q401'⟩ := E_b161.cell
  obtain ⟨_, _, ⟨T401, L401, k401, n401⟩, -, X401, ⟨Lc401, hQ401, l401, y401, z401⟩, st401⟩ := X350.privateBack hx (y := xm26) hown (mvT hZ (tw216 hw)) (mvT hZ (tw217 hw)) (mvT hZ (tw219 hw)) (Cond.privateMethod_at (mvP hZ (tw218 hw) (args := #[]))) (mvT hZ (tw220 hw)) (by decide) (backOf (W := 0) (rm_ArrayList_grow_1 l Z a0 hw [] b161 uu5 uu6 x167 x176 moa h0 n0 Z0 F_elementData_b161 V_b274_301_325 E_b274_301_325 M_moa E_x176 E_x167 E_b161 g_b161 F_modCount_b161 F_size_b161) hZ (tw220 hw) (tw51 hw) (by decide) (by decide)) (g := (mkF m 7 #[vr b161] [cv3, (.ref b161)])) rfl (by rw [hml]; rfl) (Steps.refl _) (a := b161) (by rw [e350]; exact q401) q401' (argsL := [cv3]) (rest := []) (lenOf pd_19 rfl) rfl (Nat.le_of_eq rfl) (hb hby d25_7) (fun _ _ => ⟨rfl, e350, (by decide : 0 + 1 ≤ _), (by decide : 0 + 3 ≤ _)⟩)
  dsimp only [Pt.U, Pt.locs, Pt.cells, Pt.slots] at X401 l401 y401 z401 st401 hQ401
  subst l401 y401 z401
  obtain ⟨uu11, uu12, rfl, N401q, K401, P401_0, P401_1, P401_2, P401_3, P401_4, P401_5, P401_6⟩ := hQ401
  have N402 := Fr.app N0 N401q
  refine Go.step (fun _ k => st401.trans k) ?_
  show Go p e below s _ _ _ T401 (mkF m 10 #[vr b161] [(.ref uu11)])
  have f403 := ((Keep.refl h0 [b161]).trans K401 (allS (Or.inl (List.mem_of_getElem? (i := 0) rfl)) all0))
  have z404 := Nat.le_trans (Nat.le_refl _) P401_3
  have f405 := (Nat.le_trans (Nat.le_refl _) K401.1)
  exact Go.retA X401 hx hlk Bd.returns rfl rfl (hb hby d25_10) rfl ⟨uu11, uu12, rfl, N402, f403, P401_2, P401_0, P401_1, z404, P401_4, P401_5, P401_6⟩ (by decide) (by decide)

theorem ef_ArrayList_add_1 (m : MethodId) (x0 : Addr) (x1 : Addr) (x2 : Addr) (x3 : Int32) : entryFrame m #[(.ref x0), (.ref x1), (.ref x2), (.int x3)] 4 = mkF m 0 #[vr x0, vr x1, vr x2, vi x3] [] := by first | (simp [entryFrame, mkF, argsToLocals, Value.category]; done) | rfl
def Q_ArrayList_add_1 (Z : State) (b161 : Addr) (x334 : Addr) (uu5 : Addr) (uu6 : ClassId) (x167 : Addr) (x176 : Addr) (moa : Addr) (h0 : Heap) (n0 : Nat) (v : Option Value) (h : Heap) (L : List Loc) : Prop := ∃ (uu13 : Addr) (uu14 : ClassId), v = none ∧ Fr n0 L ∧ Keep h0 h [b161] ∧ Fld Z h b161 xs35 "size" "I" cv3 ∧ Fld Z h b161 xs35 "elementData" xs34 (.ref uu13) ∧ Fld Z h b161 xs29 "modCount" "I" cv1 ∧ h0.size ≤ uu13 ∧ Exa Z h uu13 xs34 ∧ Arv Z h uu13 uu14 (.object xs39) ci3 [(.ref x167), (.ref x176), (.ref x334)] .null ∧ Ovr Z uu14 xs39
set_option maxRecDepth 65536 in
set_option maxHeartbeats 40000000 in
theorem rm_ArrayList_add_1 (l : Launch) (Z : State) (a0 : Array Value) (hw : ∀ d ∈ tables_1, d.before a0 Z = true) (ws : List Jvm.Cond) (b161 : Addr) (x334 : Addr) (uu5 : Addr) (uu6 : ClassId) (x167 : Addr) (x176 : Addr) (moa : Addr) (h0 : Heap) (n0 : Nat) (Z0 : n0 ≤ h0.size) (V_b274_301_325 : Arv Z h0 uu5 uu6 (.object xs39) ci2 [(.ref x167), (.ref x176)] .null) (F_size_b161 : Fld Z h0 b161 xs35 "size" "I" cv2) (F_elementData_b161 : Fld Z h0 b161 xs35 "elementData" xs34 (.ref uu5)) (E_b274_301_325 : Exa Z h0 uu5 xs34) (M_moa : Mir Z xs34 moa) (E_x176 : Exa Z h0 x176 xs17) (E_x167 : Exa Z h0 x167 xs17) (E_b161 : Exa Z h0 b161 xs35) (g_b161 : n0 ≤ b161) (F_modCount_b161 : Fld Z h0 b161 xs29 "modCount" "I" cv1) (E_x334 : Exa Z h0 x334 xs17) :
    MetFree l xm31 (head1 (Jvm.Cond.code xm31 jdk_38_method_24_code 4 none :: ws) xr18) (fun a U => a = #[(.ref b161), (.ref x334), (.ref uu5), cv2] ∧ Z.Warmed39 U.vm ∧ U.heap = h0) (fun _ _ _ _ _ => True) (fun _ U o U' => ∃ v L, o = .returned v ∧ Q_ArrayList_add_1 Z b161 x334 uu5 uu6 x167 x176 moa h0 n0 v U'.heap L ∧ FrameEnd U o U' L xr18.cells xr18.slots) := by
  refine MetFree.of_bodySF (plainFor_of_name pn_13) hisR ?_
  intro p e s m args below meth c s₁ Bd hml0 hP hK
  obtain ⟨rfl, hZ, hh⟩ := hP
  have hx := Bd.exec
  have hby := Bd.bytes
  have hlk : meth.locks = false := BodyLoose.notSynchronized Bd
  have hml : c.maxLocals = 4 := hml0
  have hown : s.vm.findClass xs35 = some m.cls := findClass_of_methodNamed Bd.named
  have hnm := (name_of_methodNamed Bd.named Bd.method).1
  have X0 : Stand p l e xr18 s m #[(.ref b161), (.ref x334), (.ref uu5), cv2] below meth c s₁ [] 0 0 := Stand.of_body Bd
  have e0 : s₁.heap = h0 := by rw [← hh, Bd.state]; rfl
  have N0 := Fr.nil n0
  show Go p e below s (Q_ArrayList_add_1 Z b161 x334 uu5 uu6 x167 x176 moa h0 n0) xr18.cells xr18.slots s₁ (entryFrame m #[(.ref b161), (.ref x334), (.ref uu5), cv2] 4)
  refine Go.cast (ef_ArrayList_add_1 m b161 x334 uu5 ci2) ?_
  show Go p e below s _ _ _ s₁ (mkF m 0 #[vr b161, vr x334, vr uu5, .val cv2] [])
  refine Go.step (fun _ k => XS.iloadN X0.here hx rfl (hb hby d24_0) rfl (XS.aloadN X0.here hx rfl (hb hby d24_1) rfl rfl k)) ?_
  show Go p e below s _ _ _ s₁ (mkF m 2 #[vr b161, vr x334, vr uu5, .val cv2] [(.ref uu5), cv2])
  obtain ⟨cl349, Ar349, -, Sz349, Ng349, -, -⟩ := id V_b274_301_325
  have aln349 := X0.arraylength hx (by rw [e0]; exact Ar349.1) (State.isArrayOf_alike hZ.alike Ar349.2.1) (g := (mkF m 2 #[vr b161, vr x334, vr uu5, .val cv2] [(.ref uu5), cv2])) rfl rfl (hb hby d24_2)
  rw [len_of Sz349 Ng349] at aln349
  refine Go.step (fun _ k => aln349 _ (XS.icmpNo X0.here hx rfl (hb hby d24_3) rfl (teq (by decide)).2 (XS.aloadN X0.here hx rfl (hb hby d24_6) rfl rfl k))) ?_
  show Go p e below s _ _ _ s₁ (mkF m 7 #[vr b161, vr x334, vr uu5, .val cv2] [(.ref b161)])
  obtain ⟨cq406, q406, q406'⟩ := E_b161.cell
  obtain ⟨_, _, ⟨T406, L406, k406, n406⟩, -, X406, ⟨Lc406, hQ406, l406, y406, z406⟩, st406⟩ := X0.privateBack hx (y := xm27) hown (mvT hZ (tw211 hw)) (mvT hZ (tw212 hw)) (mvT hZ (tw214 hw)) (Cond.privateMethod_at (mvP hZ (tw213 hw) (args := #[]))) (mvT hZ (tw215 hw)) (by decide) (backOf (W := 0) (rm_ArrayList_grow_0 l Z a0 hw [] b161 uu5 uu6 x167 x176 moa h0 n0 Z0 F_size_b161 F_elementData_b161 V_b274_301_325 E_b274_301_325 M_moa E_x176 E_x167 E_b161 g_b161 F_modCount_b161) hZ (tw215 hw) (tw51 hw) (by decide) (by decide)) (g := (mkF m 7 #[vr b161, vr x334, vr uu5, .val cv2] [(.ref b161)])) rfl (by rw [hml]; rfl) (Steps.refl _) (a := b161) (by rw [e0]; exact q406) q406' (argsL := []) (rest := []) (lenOf pd_12 rfl) rfl (Nat.le_of_eq rfl) (hb hby d24_7) (fun _ _ => ⟨rfl, e0, (by decide : 0 + 1 ≤ _), (by decide : 0 + 3 ≤ _)⟩)
  dsimp only [Pt.U, Pt.locs, Pt.cells, Pt.slots] at X406 l406 y406 z406 st406 hQ406
  subst l406 y406 z406
  obtain ⟨uu13, uu14, rfl, N406q, K406, P406_0, P406_1, P406_2, P406_3, P406_4, P406_5, P406_6⟩ := hQ406
  have N407 := Fr.app N0 N406q
  refine Go.step (fun _ k => st406.trans (XS.astoreN X406.here hx rfl (hb hby d24_10) rfl rfl (l' := #[vr b161, vr x334, vr uu13, .val cv2]) rfl (XS.aloadN X406.here hx rfl (hb hby d24_11) rfl rfl (XS.iloadN X406.here hx rfl (hb hby d24_12) rfl (XS.aloadN X406.here hx rfl (hb hby d24_13) rfl rfl k))))) ?_
  show Go p e below s _ _ _ T406 (mkF m 14 #[vr b161, vr x334, vr uu13, .val cv2] [(.ref x334), cv2, (.ref uu13)])
  obtain ⟨cl408, Ar408, qq408, Sz408, Ng408, Hs408, Ft408⟩ := id P406_5
  have in408 : ¬ (ci2 < 0 ∨ cl408.slots.size ≤ (ci2).toNatClampNeg) := (inb_of Sz408 ⟨by decide, by decide⟩)
  have f409 := (E_x334.keep K406)
  obtain ⟨T408, h408, X408, e408, W408, st408⟩ := stR X406 hx hZ rfl Ar408 (j := ci2) in408 rfl (Sto.ofV Ar408 qq408 P406_6 (Ins.of_exa f409 (tw157 hw))) (g := (mkF m 14 #[vr b161, vr x334, vr uu13, .val cv2] [(.ref x334), cv2, (.ref uu13)])) rfl rfl (hb hby d24_14)
  have g410 := Nat.le_trans Z0 P406_3
  have f411 : Arv Z h408 uu13 uu14 (.object xs39) ci3 [(.ref x167), (.ref x176), (.ref x334)] .null := Arv.set Ar408 qq408 Sz408 Ng408 Hs408 Ft408 rfl W408 2 rfl (Nat.le_of_ble_eq_true rfl)
  have N412 := Fr.snoc X408 N407 g410
  refine Go.step (fun _ k => st408 _ (XS.aloadN X408.here hx rfl (hb hby d24_15) rfl rfl (XS.iloadN X408.here hx rfl (hb hby d24_16) rfl (XS.iconst X408.here hx rfl (hb hby d24_17) (XS.iadd X408.here hx rfl (hb hby d24_18) rfl k))))) ?_
  show Go p e below s _ _ _ T408 (mkF m 19 #[vr b161, vr x334, vr uu13, .val cv2] [cv3, (.ref b161)])
  have ne413 : b161 ≠ uu13 := Nat.ne_of_lt (Nat.lt_of_lt_of_le E_b161.lt P406_3)
  have f414 := (P406_0.other W408 (Or.inl ne413))
  have f415 := ((E_b161.keep K406).wr W408)
  obtain ⟨T416, h416, X416, e416, W416, st416⟩ := putF X408 hx hZ hown (host := "") (Or.inl (tw158 hw)) Via.refl e408 f414 f415 (Or.inl (tw159 hw)) (tw50 hw) (ty := .int) (by decide) rfl rfl (g := (mkF m 19 #[vr b161, vr x334, vr uu13, .val cv2] [cv3, (.ref b161)])) rfl rfl (hb hby d24_19)
  have f417 := f414.same W416
  have N418 := Fr.snoc X416 N412 g_b161
  refine Go.step (fun _ k => st416 _ k) ?_
  show Go p e below s _ _ _ T416 (mkF m 22 #[vr b161, vr x334, vr uu13, .val cv2] [])
  have z419 := Nat.le_trans (Nat.le_refl _) P406_3
  have f420 := ((((Keep.refl h0 [b161]).trans K406 (allS (Or.inl (List.mem_of_getElem? (i := 0) rfl)) all0)).wr W408 (Or.inr z419)).wr W416 (Or.inl (List.mem_of_getElem? (i := 0) rfl)))
  have f421 := ((P406_1.other W408 (Or.inl ne413)).other W416 (Or.inr (slot_ne (Or.inl (tw187 hw)) (Or.inl (tw159 hw)) (by decide) (t := (.array (.object xs39))) (t' := .int) (by decide) (by decide))))
  have f422 := ((P406_2.other W408 (Or.inl ne413)).other W416 (Or.inr (slot_ne (Or.inl (tw143 hw)) (Or.inl (tw159 hw)) (by decide) (t := .int) (t' := .int) (by decide) (by decide))))
  have f423 := ((P406_4.wr W408).wr W416)
  have f424 := (f411.other W416 (Ne.symm ne413))
  have f425 := (Nat.le_trans (Nat.le_trans (Nat.le_trans (Nat.le_refl _) K406.1) (Keep.of_wr W408).1) (Keep.of_wr W416).1)
  exact Go.retV X416 hx hlk Bd.returns (hb hby d24_22) e416 ⟨uu13, uu14, rfl, N418, f420, f417, f421, f422, z419, f423, f424, P406_6⟩ (by decide) (by decide)

theorem ef_ArrayList_add_0 (m : MethodId) (x0 : Addr) (x1 : Addr) : entryFrame m #[(.ref x0), (.ref x1)] 2 = mkF m 0 #[vr x0, vr x1] [] := by first | (simp [entryFrame, mkF, argsToLocals, Value.category]; done) | rfl
def Q_ArrayList_add_0 (Z : State) (b161 : Addr) (x334 : Addr) (uu5 : Addr) (uu6 : ClassId) (x167 : Addr) (x176 : Addr) (moa : Addr) (h0 : Heap) (n0 : Nat) (v : Option Value) (h : Heap) (L : List Loc) : Prop := ∃ (uu15 : Addr) (uu16 : ClassId), v = some cv1 ∧ Fr n0 L ∧ Keep h0 h [b161] ∧ Fld Z h b161 xs29 "modCount" "I" cv1 ∧ Fld Z h b161 xs35 "elementData" xs34 (.ref uu15) ∧ Fld Z h b161 xs35 "size" "I" cv3 ∧ h0.size ≤ uu15 ∧ Exa Z h uu15 xs34 ∧ Arv Z h uu15 uu16 (.object xs39) ci3 [(.ref x167), (.ref x176), (.ref x334)] .null ∧ Ovr Z uu16 xs39
set_option maxRecDepth 65536 in
set_option maxHeartbeats 40000000 in
theorem rm_ArrayList_add_0 (l : Launch) (Z : State) (a0 : Array Value) (hw : ∀ d ∈ tables_1, d.before a0 Z = true) (ws : List Jvm.Cond) (b161 : Addr) (x334 : Addr) (uu5 : Addr) (uu6 : ClassId) (x167 : Addr) (x176 : Addr) (moa : Addr) (h0 : Heap) (n0 : Nat) (Z0 : n0 ≤ h0.size) (F_modCount_b161 : Fld Z h0 b161 xs29 "modCount" "I" cv0) (E_b161 : Exa Z h0 b161 xs35) (g_b161 : n0 ≤ b161) (F_elementData_b161 : Fld Z h0 b161 xs35 "elementData" xs34 (.ref uu5)) (F_size_b161 : Fld Z h0 b161 xs35 "size" "I" cv2) (V_b274_301_325 : Arv Z h0 uu5 uu6 (.object xs39) ci2 [(.ref x167), (.ref x176)] .null) (E_b274_301_325 : Exa Z h0 uu5 xs34) (M_moa : Mir Z xs34 moa) (E_x176 : Exa Z h0 x176 xs17) (E_x167 : Exa Z h0 x167 xs17) (E_x334 : Exa Z h0 x334 xs17) (ne_b274_301_325_b161 : uu5 ≠ b161) :
    MetFree l xm32 (head1 (Jvm.Cond.code xm32 jdk_38_method_25_code 2 (some .boolean) :: ws) xr19) (fun a U => a = #[(.ref b161), (.ref x334)] ∧ Z.Warmed39 U.vm ∧ U.heap = h0) (fun _ _ _ _ _ => True) (fun _ U o U' => ∃ v L, o = .returned v ∧ Q_ArrayList_add_0 Z b161 x334 uu5 uu6 x167 x176 moa h0 n0 v U'.heap L ∧ FrameEnd U o U' L xr19.cells xr19.slots) := by
  refine MetFree.of_bodySF (plainFor_of_name pn_13) hisR ?_
  intro p e s m args below meth c s₁ Bd hml0 hP hK
  obtain ⟨rfl, hZ, hh⟩ := hP
  have hx := Bd.exec
  have hby := Bd.bytes
  have hlk : meth.locks = false := BodyLoose.notSynchronized Bd
  have hml : c.maxLocals = 2 := hml0
  have hown : s.vm.findClass xs35 = some m.cls := findClass_of_methodNamed Bd.named
  have hnm := (name_of_methodNamed Bd.named Bd.method).1
  have X0 : Stand p l e xr19 s m #[(.ref b161), (.ref x334)] below meth c s₁ [] 0 0 := Stand.of_body Bd
  have e0 : s₁.heap = h0 := by rw [← hh, Bd.state]; rfl
  have N0 := Fr.nil n0
  show Go p e below s (Q_ArrayList_add_0 Z b161 x334 uu5 uu6 x167 x176 moa h0 n0) xr19.cells xr19.slots s₁ (entryFrame m #[(.ref b161), (.ref x334)] 2)
  refine Go.cast (ef_ArrayList_add_0 m b161 x334) ?_
  show Go p e below s _ _ _ s₁ (mkF m 0 #[vr b161, vr x334] [])
  refine Go.step (fun _ k => XS.aloadN X0.here hx rfl (hb hby d23_0) rfl rfl (XS.dup X0.here hx rfl (hb hby d23_1) rfl rfl k)) ?_
  show Go p e below s _ _ _ s₁ (mkF m 2 #[vr b161, vr x334] [(.ref b161), (.ref b161)])
  obtain ⟨T341, X341, e341, st341⟩ := getF X0 hx hZ hown (host := "") (Or.inl (tw204 hw)) (Via.of (tw205 hw)) e0 F_modCount_b161 (g := (mkF m 2 #[vr b161, vr x334] [(.ref b161), (.ref b161)])) rfl rfl (hb hby d23_2)
  refine Go.step (fun _ k => st341 _ (XS.iconst X341.here hx rfl (hb hby d23_5) (XS.iadd X341.here hx rfl (hb hby d23_6) rfl k))) ?_
  show Go p e below s _ _ _ T341 (mkF m 7 #[vr b161, vr x334] [cv1, (.ref b161)])
  obtain ⟨T342, h342, X342, e342, W342, st342⟩ := putF X341 hx hZ hown (host := "") (Or.inl (tw204 hw)) (Via.of (tw205 hw)) e341 F_modCount_b161 E_b161 (Or.inl (tw143 hw)) (tw50 hw) (ty := .int) (by decide) rfl rfl (g := (mkF m 7 #[vr b161, vr x334] [cv1, (.ref b161)])) rfl rfl (hb hby d23_7)
  have f343 := F_modCount_b161.same W342
  have N344 := Fr.snoc X342 N0 g_b161
  refine Go.step (fun _ k => st342 _ (XS.aloadN X342.here hx rfl (hb hby d23_10) rfl rfl (XS.aloadN X342.here hx rfl (hb hby d23_11) rfl rfl (XS.aloadN X342.here hx rfl (hb hby d23_12) rfl rfl k)))) ?_
  show Go p e below s _ _ _ T342 (mkF m 13 #[vr b161, vr x334] [(.ref b161), (.ref x334), (.ref b161)])
  have f345 := (F_elementData_b161.other W342 (Or.inr (slot_ne (Or.inl (tw187 hw)) (Or.inl (tw143 hw)) (by decide) (t := (.array (.object xs39))) (t' := .int) (by decide) (by decide))))
  obtain ⟨T346, X346, e346, st346⟩ := getF X342 hx hZ hown (host := "") (Or.inl (tw186 hw)) Via.refl e342 f345 (g := (mkF m 13 #[vr b161, vr x334] [(.ref b161), (.ref x334), (.ref b161)])) rfl rfl (hb hby d23_13)
  refine Go.step (fun _ k => st346 _ (XS.aloadN X346.here hx rfl (hb hby d23_16) rfl rfl k)) ?_
  show Go p e below s _ _ _ T346 (mkF m 17 #[vr b161, vr x334] [(.ref b161), (.ref uu5), (.ref x334), (.ref b161)])
  have f347 := (F_size_b161.other W342 (Or.inr (slot_ne (Or.inl (tw159 hw)) (Or.inl (tw143 hw)) (by decide) (t := .int) (t' := .int) (by decide) (by decide))))
  obtain ⟨T348, X348, e348, st348⟩ := getF X346 hx hZ hown (host := "") (Or.inl (tw158 hw)) Via.refl e346 f347 (g := (mkF m 17 #[vr b161, vr x334] [(.ref b161), (.ref uu5), (.ref x334), (.ref b161)])) rfl rfl (hb hby d23_17)
  refine Go.step (fun _ k => st348 _ k) ?_
  show Go p e below s _ _ _ T348 (mkF m 20 #[vr b161, vr x334] [cv2, (.ref uu5), (.ref x334), (.ref b161)])
  have f426 := (Nat.le_trans Z0 (Keep.of_wr W342).1)
  have f428 := (V_b274_301_325.other W342 ne_b274_301_325_b161)
  have f429 := (E_b274_301_325.wr W342)
  have f430 := (E_x176.wr W342)
  have f431 := (E_x167.wr W342)
  have f432 := (E_b161.wr W342)
  have f433 := (E_x334.wr W342)
  obtain ⟨cq434, q434, q434'⟩ := f432.cell
  obtain ⟨_, _, ⟨T434, L434, k434, n434⟩, -, X434, ⟨Lc434, hQ434, l434, y434, z434⟩, st434⟩ := X348.privateBack hx (y := xm31) hown (mvT hZ (tw206 hw)) (mvT hZ (tw207 hw)) (mvT hZ (tw209 hw)) (Cond.privateMethod_at (mvP hZ (tw208 hw) (args := #[]))) (mvT hZ (tw210 hw)) (by decide) (backOf (W := 0) (rm_ArrayList_add_1 l Z a0 hw [] b161 x334 uu5 uu6 x167 x176 moa h342 n0 f426 f428 f347 f345 f429 M_moa f430 f431 f432 g_b161 f343 f433) hZ (tw210 hw) (tw51 hw) (by decide) (by decide)) (g := (mkF m 20 #[vr b161, vr x334] [cv2, (.ref uu5), (.ref x334), (.ref b161)])) rfl (by rw [hml]; rfl) (Steps.refl _) (a := b161) (by rw [e348]; exact q434) q434' (argsL := [(.ref x334), (.ref uu5), cv2]) (rest := []) (lenOf pd_20 rfl) rfl (Nat.le_of_eq rfl) (hb hby d23_20) (fun _ _ => ⟨rfl, e348, (by decide : 0 + 1 ≤ _), (by decide : 0 + 3 ≤ _)⟩)
  dsimp only [Pt.U, Pt.locs, Pt.cells, Pt.slots] at X434 l434 y434 z434 st434 hQ434
  subst l434 y434 z434
  obtain ⟨uu15, uu16, rfl, N434q, K434, P434_0, P434_1, P434_2, P434_3, P434_4, P434_5, P434_6⟩ := hQ434
  have N435 := Fr.app N344 N434q
  refine Go.step (fun _ k => st434.trans (XS.iconst X434.here hx rfl (hb hby d23_23) k)) ?_
  show Go p e below s _ _ _ T434 (mkF m 24 #[vr b161, vr x334] [cv1])
  have f436 := (((Keep.refl h0 [b161]).wr W342 (Or.inl (List.mem_of_getElem? (i := 0) rfl))).trans K434 (allS (Or.inl (List.mem_of_getElem? (i := 0) rfl)) all0))
  have f437 := (Nat.le_trans (Nat.le_refl _) (Keep.of_wr W342).1)
  have z438 := Nat.le_trans f437 P434_3
  have f439 := (Nat.le_trans (Nat.le_trans (Nat.le_refl _) (Keep.of_wr W342).1) K434.1)
  exact Go.retN X434 hx hlk (t := .boolean) Bd.returns (by simp) (hb hby d23_24) rfl ⟨uu15, uu16, rfl, N435, f436, P434_2, P434_1, P434_0, z438, P434_4, P434_5, P434_6⟩ (by decide) (by decide)

theorem ef_Trip_goods_0 (m : MethodId) (x0 : Addr) : entryFrame m #[(.ref x0)] 3 = mkF m 0 #[vr x0, .unset, .unset] [] := by first | (simp [entryFrame, mkF, argsToLocals, Value.category]; done) | rfl
def Q_Trip_goods_0 (Z : State) (b113 : Addr) (ar : Int32) (els : List Value) (x167 : Addr) (dp : Int32) (x176 : Addr) (em : Addr) (m12 : Addr) (mal : Addr) (moa : Addr) (hot : Addr) (kk : Int32) (x334 : Addr) (hg : Addr) (li : Addr) (al : Addr) (ea : Addr) (kea : ClassId) (lo : Addr) (lg : Addr) (lc : Addr) (h0 : Heap) (n0 : Nat) (v : Option Value) (h : Heap) (L : List Loc) : Prop := ∃ (b161 : Addr) (uu17 : Addr) (uu18 : ClassId), v = some (.ref b161) ∧ Fr n0 L ∧ Keep h0 h [] ∧ h0.size ≤ b161 ∧ Exa Z h b161 xs35 ∧ Fld Z h b161 xs29 "modCount" "I" cv1 ∧ Fld Z h b161 xs35 "size" "I" cv3 ∧ Fld Z h b161 xs35 "elementData" xs34 (.ref uu17) ∧ h0.size ≤ uu17 ∧ Exa Z h uu17 xs34 ∧ Arv Z h uu17 uu18 (.object xs39) ci3 [(.ref x167), (.ref x176), (.ref x334)] .null ∧ Ovr Z uu18 xs39 ∧ b161 ≠ uu17
set_option maxRecDepth 65536 in
set_option maxHeartbeats 40000000 in
theorem rm_Trip_goods_0 (l : Launch) (Z : State) (a0 : Array Value) (hw : ∀ d ∈ tables_1, d.before a0 Z = true) (ws : List Jvm.Cond) (b113 : Addr) (ar : Int32) (els : List Value) (x167 : Addr) (dp : Int32) (x176 : Addr) (em : Addr) (m12 : Addr) (mal : Addr) (moa : Addr) (hot : Addr) (kk : Int32) (x334 : Addr) (hg : Addr) (li : Addr) (al : Addr) (ea : Addr) (kea : ClassId) (lo : Addr) (lg : Addr) (lc : Addr) (h0 : Heap) (n0 : Nat) (Z0 : n0 ≤ h0.size) (F_arrival_b113 : Fld Z h0 b113 xs18 "arrival" "I" (.int ar)) (pk_168 : (els : List Value).getD ((((ci0 * ci4) + ar) - ci1)).toNatClampNeg .null = .ref x167) (har : own_I ar) (O0 : Old Z n0 h0) (Z_S_INFLIGHT : Sta Z Z.heap xs11 "INFLIGHT" xs10 (.ref li)) (Z_E_li : Exa Z Z.heap li xs11) (Z_F_first_li : Fld Z Z.heap li xs11 "first" "I" cv1) (Z_F_ordinal_li : Fld Z Z.heap li xs43 "ordinal" "I" cv0) (Z_S_ALL : Sta Z Z.heap xs17 "ALL" xs40 (.ref al)) (Z_E_al : Exa Z Z.heap al xs22) (Z_F_elements_al : Fld Z Z.heap al xs22 "elements" xs34 (.ref ea)) (Z_A_ea : Arv Z Z.heap ea kea (.object xs39) ci28 els .null) (E_x167 : Exa Z h0 x167 xs17) (F_departure_b113 : Fld Z h0 b113 xs18 "departure" "I" (.int dp)) (pk_177 : (els : List Value).getD ((((ci1 * ci4) + dp) - ci2)).toNatClampNeg .null = .ref x176) (hO : own_O dp) (Z_S_OUTFLIGHT : Sta Z Z.heap xs11 "OUTFLIGHT" xs10 (.ref lo)) (Z_E_lo : Exa Z Z.heap lo xs11) (Z_F_first_lo : Fld Z Z.heap lo xs11 "first" "I" cv2) (Z_F_ordinal_lo : Fld Z Z.heap lo xs43 "ordinal" "I" cv1) (E_x176 : Exa Z h0 x176 xs17) (Z_S_EMPTY : Sta Z Z.heap xs26 "EMPTY" xs36 (.ref em)) (Z_E_em : Exa Z Z.heap em xs39) (ne_x176_em : x176 ≠ em) (M_m12 : Mir Z xs21 m12) (M_mal : Mir Z xs35 mal) (ne_m12_mal : m12 ≠ mal) (M_moa : Mir Z xs34 moa) (hl0 : ar < dp) (F_hotel_b113 : Fld Z h0 b113 xs18 "hotel" xs13 (.ref hot)) (pk_335 : (els : List Value).getD ((((kk * ci4) + ar) - ci1)).toNatClampNeg .null = .ref x334) (hKk : own_K hg hot kk) (Z_S_GOOD : Sta Z Z.heap xs16 "GOOD" xs13 (.ref hg)) (Z_S_GOOD_HOTEL : Sta Z Z.heap xs11 "GOOD_HOTEL" xs10 (.ref lg)) (Z_E_lg : Exa Z Z.heap lg xs11) (Z_F_first_lg : Fld Z Z.heap lg xs11 "first" "I" cv1) (Z_F_ordinal_lg : Fld Z Z.heap lg xs43 "ordinal" "I" cv2) (Z_S_CHEAP_HOTEL : Sta Z Z.heap xs11 "CHEAP_HOTEL" xs10 (.ref lc)) (Z_E_lc : Exa Z Z.heap lc xs11) (Z_F_first_lc : Fld Z Z.heap lc xs11 "first" "I" cv1) (Z_F_ordinal_lc : Fld Z Z.heap lc xs43 "ordinal" "I" cv3) (E_x334 : Exa Z h0 x334 xs17) (hl1 : ¬ (ar + ci1) < dp) :
    MetFree l xm23 (head1 (Jvm.Cond.code xm23 prog_82_method_5_code 3 (some (.object xs44)) :: ws) xr0) (fun a U => a = #[(.ref b113)] ∧ Z.Warmed39 U.vm ∧ U.heap = h0) (fun _ _ _ _ _ => True) (fun _ U o U' => ∃ v L, o = .returned v ∧ Q_Trip_goods_0 Z b113 ar els x167 dp x176 em m12 mal moa hot kk x334 hg li al ea kea lo lg lc h0 n0 v U'.heap L ∧ FrameEnd U o U' L xr0.cells xr0.slots) := by
  refine MetFree.of_bodySF (plainFor_of_name pn_3) hisR ?_
  intro p e s m args below meth c s₁ Bd hml0 hP hK
  obtain ⟨rfl, hZ, hh⟩ := hP
  have hx := Bd.exec
  have hby := Bd.bytes
  have hlk : meth.locks = false := BodyLoose.notSynchronized Bd
  have hml : c.maxLocals = 3 := hml0
  have hown : s.vm.findClass xs18 = some m.cls := findClass_of_methodNamed Bd.named
  have hnm := (name_of_methodNamed Bd.named Bd.method).1
  have X0 : Stand p l e xr0 s m #[(.ref b113)] below meth c s₁ [] 0 0 := Stand.of_body Bd
  have e0 : s₁.heap = h0 := by rw [← hh, Bd.state]; rfl
  have N0 := Fr.nil n0
  show Go p e below s (Q_Trip_goods_0 Z b113 ar els x167 dp x176 em m12 mal moa hot kk x334 hg li al ea kea lo lg lc h0 n0) xr0.cells xr0.slots s₁ (entryFrame m #[(.ref b113)] 3)
  refine Go.cast (ef_Trip_goods_0 m b113) ?_
  show Go p e below s _ _ _ s₁ (mkF m 0 #[vr b113, .unset, .unset] [])
  obtain ⟨T161, h161, X161, e161, E161, A161, D161, -, st161⟩ := newO X0 hx hZ hown (tw49 hw) (tw50 hw) (tw51 hw) e0 (g := (mkF m 0 #[vr b113, .unset, .unset] [])) rfl (hb hby d11_0) (by decide) (by decide)
  obtain ⟨b161, g161⟩ : ∃ z, z = h0.size := ⟨_, rfl⟩
  rw [← g161] at A161 D161 st161
  have f162 : Fld Z h161 b161 xs29 "modCount" "I" cv0 := D161 (Or.inl (tw143 hw)) (ty := .int) (by decide)
  have f163 : Fld Z h161 b161 xs35 "size" "I" cv0 := D161 (Or.inl (tw159 hw)) (ty := .int) (by decide)
  have f164 : Fld Z h161 b161 xs35 "elementData" xs34 .null := D161 (Or.inl (tw187 hw)) (ty := (.array (.object xs39))) (by decide)
  refine Go.step (fun _ k => st161 _ (XS.dup X161.here hx rfl (hb hby d11_3) rfl rfl (XS.aloadN X161.here hx rfl (hb hby d11_4) rfl rfl k))) ?_
  show Go p e below s _ _ _ T161 (mkF m 5 #[vr b113, .unset, .unset] [(.ref b113), (.ref b161), (.ref b161)])
  have f165 := (F_arrival_b113.ext E161)
  obtain ⟨T166, X166, e166, st166⟩ := getF X161 hx hZ hown (host := "") (Or.inl (tw33 hw)) Via.refl e161 f165 (g := (mkF m 5 #[vr b113, .unset, .unset] [(.ref b113), (.ref b161), (.ref b161)])) rfl rfl (hb hby d11_5)
  refine Go.step (fun _ k => st166 _ k) ?_
  show Go p e below s _ _ _ T166 (mkF m 8 #[vr b113, .unset, .unset] [(.int ar), (.ref b161), (.ref b161)])
  have f169 := (O0.ext E161)
  have f170 := (Nat.le_trans Z0 E161.1)
  have f171 := (E_x167.ext E161)
  obtain ⟨_, _, ⟨T172, L172, k172, n172⟩, -, X172, ⟨Lc172, hQ172, l172, y172, z172⟩, st172⟩ := Jvm.LawKit.callS X166 hx (y := xm9) hown (mvT hZ (tw52 hw)) (mvT hZ (tw53 hw)) (mvT hZ (tw54 hw)) (mvT hZ (tw55 hw)) (by decide) (backOf (W := 2) (rm_inflight l Z a0 hw [] ar x167 li al ea kea els h161 n0 f170 f169 Z_S_INFLIGHT Z_E_li Z_F_first_li Z_F_ordinal_li Z_S_ALL Z_E_al Z_F_elements_al Z_A_ea f171 har pk_168) hZ (tw55 hw) (tw54 hw) (by decide) (by decide)) (g := (mkF m 8 #[vr b113, .unset, .unset] [(.int ar), (.ref b161), (.ref b161)])) rfl (by rw [hml]; rfl) (argsL := [(.int ar)]) (rest := [(.ref b161), (.ref b161)]) (lenOf pd_8 rfl) rfl (Nat.le_of_eq rfl) (hb hby d11_8) (fun _ _ => ⟨rfl, e166, (by decide : 1 + 0 ≤ _), (by decide : 3 + 0 ≤ _)⟩)
  dsimp only [Pt.U, Pt.locs, Pt.cells, Pt.slots] at X172 l172 y172 z172 st172 hQ172
  subst l172 y172 z172
  obtain ⟨rfl, N172q, eq172⟩ := hQ172
  have N173 := Fr.app N0 N172q
  refine Go.step (fun _ k => st172 _ (XS.aloadN X172.here hx rfl (hb hby d11_11) rfl rfl k)) ?_
  show Go p e below s _ _ _ T172 (mkF m 12 #[vr b113, .unset, .unset] [(.ref b113), (.ref x167), (.ref b161), (.ref b161)])
  have f174 := (F_departure_b113.ext E161)
  obtain ⟨T175, X175, e175, st175⟩ := getF X172 hx hZ hown (host := "") (Or.inl (tw35 hw)) Via.refl eq172 f174 (g := (mkF m 12 #[vr b113, .unset, .unset] [(.ref b113), (.ref x167), (.ref b161), (.ref b161)])) rfl rfl (hb hby d11_12)
  refine Go.step (fun _ k => st175 _ k) ?_
  show Go p e below s _ _ _ T175 (mkF m 15 #[vr b113, .unset, .unset] [(.int dp), (.ref x167), (.ref b161), (.ref b161)])
  have f178 := (E_x176.ext E161)
  obtain ⟨_, _, ⟨T179, L179, k179, n179⟩, -, X179, ⟨Lc179, hQ179, l179, y179, z179⟩, st179⟩ := Jvm.LawKit.callS X175 hx (y := xm6) hown (mvT hZ (tw89 hw)) (mvT hZ (tw90 hw)) (mvT hZ (tw54 hw)) (mvT hZ (tw91 hw)) (by decide) (backOf (W := 3) (rm_outflight l Z a0 hw [] dp x176 lo al ea kea els h161 n0 f170 f169 Z_S_OUTFLIGHT Z_E_lo Z_F_first_lo Z_F_ordinal_lo Z_S_ALL Z_E_al Z_F_elements_al Z_A_ea f178 hO pk_177) hZ (tw91 hw) (tw54 hw) (by decide) (by decide)) (g := (mkF m 15 #[vr b113, .unset, .unset] [(.int dp), (.ref x167), (.ref b161), (.ref b161)])) rfl (by rw [hml]; rfl) (argsL := [(.int dp)]) (rest := [(.ref x167), (.ref b161), (.ref b161)]) (lenOf pd_8 rfl) rfl (Nat.le_of_eq rfl) (hb hby d11_15) (fun _ _ => ⟨rfl, e175, (by decide : 1 + 0 ≤ _), (by decide : 3 + 0 ≤ _)⟩)
  dsimp only [Pt.U, Pt.locs, Pt.cells, Pt.slots] at X179 l179 y179 z179 st179 hQ179
  subst l179 y179 z179
  obtain ⟨rfl, N179q, eq179⟩ := hQ179
  have N180 := Fr.app N173 N179q
  refine Go.step (fun _ k => st179 _ k) ?_
  show Go p e below s _ _ _ T179 (mkF m 18 #[vr b113, .unset, .unset] [(.ref x176), (.ref x167), (.ref b161), (.ref b161)])
  obtain ⟨_, _, ⟨T215, L215, k215, n215⟩, -, X215, ⟨Lc215, hQ215, l215, y215, z215⟩, st215⟩ := Jvm.LawKit.callS X179 hx (y := xm38) hown (mvT hZ (tw94 hw)) (mvT hZ (tw95 hw)) (mvT hZ (tw96 hw)) (mvT hZ (tw97 hw)) (by decide) (backOf (W := 2) (rm_List_of_0 l Z a0 hw [] x167 x176 h161 n0 f170) hZ (tw97 hw) (tw96 hw) (by decide) (by decide)) (g := (mkF m 18 #[vr b113, .unset, .unset] [(.ref x176), (.ref x167), (.ref b161), (.ref b161)])) rfl (by rw [hml]; rfl) (argsL := [(.ref x167), (.ref x176)]) (rest := [(.ref b161), (.ref b161)]) (lenOf pd_11 rfl) rfl (Nat.le_of_eq rfl) (hb hby d11_18) (fun _ _ => ⟨rfl, eq179, (by decide : 1 + 1 ≤ _), (by decide : 3 + 2 ≤ _)⟩)
  dsimp only [Pt.U, Pt.locs, Pt.cells, Pt.slots] at X215 l215 y215 z215 st215 hQ215
  subst l215 y215 z215
  obtain ⟨uu0, rfl, N215q, K215, P215_0, P215_1, P215_2, P215_3⟩ := hQ215
  have N216 := Fr.app N180 N215q
  refine Go.step (fun _ k => st215 _ k) ?_
  show Go p e below s _ _ _ T215 (mkF m 21 #[vr b113, .unset, .unset] [(.ref uu0), (.ref b161), (.ref b161)])
  have g220 := Nat.le_trans Z0 (Nat.le_of_eq g161.symm)
  have f232 := (f169.keep K215 all0)
  have ne254 : b161 ≠ uu0 := Nat.ne_of_lt (Nat.lt_of_lt_of_le A161.lt P215_0)
  have f318 := (Nat.le_trans f170 K215.1)
  have f319 := (A161.keep K215)
  have f320 := (f162.keep K215 nin0)
  have f321 := (f164.keep K215 nin0)
  have f322 := (f163.keep K215 nin0)
  have f323 := (f171.keep K215)
  have f324 := (f178.keep K215)
  obtain ⟨_, _, ⟨T325, L325, k325, n325⟩, -, X325, ⟨Lc325, hQ325, l325, y325, z325⟩, st325⟩ := X215.specialBack hx (y := xm18) rfl hown (mvT hZ (tw131 hw)) (mvT hZ (tw132 hw)) (mvT hZ (tw133 hw)) (by decide) (backOf (W := 1) (rm_ArrayList_new_0 l Z a0 hw [] b161 uu0 x176 em x167 m12 mal moa T215.heap n0 f318 f319 f320 g220 f321 f322 P215_1 P215_3 Z_S_EMPTY f232 Z_E_em ne_x176_em P215_2 f323 f324 (Ne.symm ne254) M_m12 M_mal ne_m12_mal M_moa) hZ (tw133 hw) (tw51 hw) (by decide) (by decide)) (g := (mkF m 21 #[vr b113, .unset, .unset] [(.ref uu0), (.ref b161), (.ref b161)])) rfl (by rw [hml]; rfl) (Steps.refl _) (a := b161) (argsL := [(.ref uu0)]) (rest := [(.ref b161)]) (lenOf pd_15 rfl) rfl (Nat.le_of_eq rfl) (hb hby d11_21) (fun _ _ => ⟨rfl, rfl, (by decide : 2 + 2 ≤ _), (by decide : 5 + 4 ≤ _)⟩)
  dsimp only [Pt.U, Pt.locs, Pt.cells, Pt.slots] at X325 l325 y325 z325 st325 hQ325
  subst l325 y325 z325
  obtain ⟨uu5, uu6, rfl, N325q, K325, P325_0, P325_1, P325_2, P325_3, P325_4, P325_5, P325_6⟩ := hQ325
  have N326 := Fr.app N216 N325q
  refine Go.step (fun _ k => st325.trans (XS.astoreN X325.here hx rfl (hb hby d11_24) rfl rfl (l' := #[vr b113, vr b161, .unset]) rfl (XS.aloadN X325.here hx rfl (hb hby d11_25) rfl rfl k))) ?_
  show Go p e below s _ _ _ T325 (mkF m 26 #[vr b113, vr b161, .unset] [(.ref b113)])
  have ne327 : b113 ≠ b161 := Nat.ne_of_lt (Nat.lt_of_lt_of_le F_arrival_b113.lt (Nat.le_of_eq g161.symm))
  have f328 := ((f165.keep K215 nin0).keep K325 (ninS ne327 nin0))
  obtain ⟨T329, X329, e329, st329⟩ := getF X325 hx hZ hown (host := "") (Or.inl (tw33 hw)) Via.refl rfl f328 (g := (mkF m 26 #[vr b113, vr b161, .unset] [(.ref b113)])) rfl rfl (hb hby d11_26)
  refine Go.step (fun _ k => st329 _ (XS.istoreN X329.here hx rfl (hb hby d11_29) rfl (l' := #[vr b113, vr b161, vi ar]) rfl (XS.iloadN X329.here hx rfl (hb hby d11_30) rfl (XS.aloadN X329.here hx rfl (hb hby d11_31) rfl rfl k)))) ?_
  show Go p e below s _ _ _ T329 (mkF m 32 #[vr b113, vr b161, vi ar] [(.ref b113), (.int ar)])
  have f330 := ((f174.keep K215 nin0).keep K325 (ninS ne327 nin0))
  obtain ⟨T331, X331, e331, st331⟩ := getF X329 hx hZ hown (host := "") (Or.inl (tw35 hw)) Via.refl e329 f330 (g := (mkF m 32 #[vr b113, vr b161, vi ar] [(.ref b113), (.int ar)])) rfl rfl (hb hby d11_32)
  refine Go.step (fun _ k => st331 _ (XS.icmpNo X331.here hx rfl (hb hby d11_35) rfl (tlt hl0).2.1 (XS.aloadN X331.here hx rfl (hb hby d11_38) rfl rfl (XS.aloadN X331.here hx rfl (hb hby d11_39) rfl rfl k)))) ?_
  show Go p e below s _ _ _ T331 (mkF m 40 #[vr b113, vr b161, vi ar] [(.ref b113), (.ref b161)])
  have f332 := (((F_hotel_b113.ext E161).keep K215 nin0).keep K325 (ninS ne327 nin0))
  obtain ⟨T333, X333, e333, st333⟩ := getF X331 hx hZ hown (host := "") (Or.inl (tw37 hw)) Via.refl e331 f332 (g := (mkF m 40 #[vr b113, vr b161, vi ar] [(.ref b113), (.ref b161)])) rfl rfl (hb hby d11_40)
  refine Go.step (fun _ k => st333 _ (XS.iloadN X333.here hx rfl (hb hby d11_43) rfl k)) ?_
  show Go p e below s _ _ _ T333 (mkF m 44 #[vr b113, vr b161, vi ar] [(.int ar), (.ref hot), (.ref b161)])
  have f336 := (f232.keep K325 (allS g220 all0))
  have f337 := (Nat.le_trans f318 K325.1)
  have f338 := (((E_x334.ext E161).keep K215).keep K325)
  obtain ⟨_, _, ⟨T339, L339, k339, n339⟩, -, X339, ⟨Lc339, hQ339, l339, y339, z339⟩, st339⟩ := Jvm.LawKit.callS X333 hx (y := xm30) hown (mvT hZ (tw188 hw)) (mvT hZ (tw189 hw)) (mvT hZ (tw54 hw)) (mvT hZ (tw190 hw)) (by decide) (backOf (W := 1) (rm_room l Z a0 hw [] hot kk ar x334 hg lg lc al ea kea els T325.heap n0 f337 f336 Z_S_GOOD Z_S_GOOD_HOTEL Z_E_lg Z_F_first_lg Z_F_ordinal_lg Z_S_CHEAP_HOTEL Z_E_lc Z_F_first_lc Z_F_ordinal_lc Z_S_ALL Z_E_al Z_F_elements_al Z_A_ea f338 hKk har pk_335) hZ (tw190 hw) (tw54 hw) (by decide) (by decide)) (g := (mkF m 44 #[vr b113, vr b161, vi ar] [(.int ar), (.ref hot), (.ref b161)])) rfl (by rw [hml]; rfl) (argsL := [(.ref hot), (.int ar)]) (rest := [(.ref b161)]) (lenOf pd_16 rfl) rfl (Nat.le_of_eq rfl) (hb hby d11_44) (fun _ _ => ⟨rfl, e333, (by decide : 4 + 0 ≤ _), (by decide : 9 + 0 ≤ _)⟩)
  dsimp only [Pt.U, Pt.locs, Pt.cells, Pt.slots] at X339 l339 y339 z339 st339 hQ339
  subst l339 y339 z339
  obtain ⟨rfl, N339q, eq339⟩ := hQ339
  have N340 := Fr.app N326 N339q
  refine Go.step (fun _ k => st339 _ k) ?_
  show Go p e below s _ _ _ T339 (mkF m 47 #[vr b113, vr b161, vi ar] [(.ref x334), (.ref b161)])
  have ne427 : b161 ≠ uu5 := Nat.ne_of_lt (Nat.lt_of_lt_of_le f319.lt P325_3)
  have f440 := (f319.keep K325)
  have f441 := (f324.keep K325)
  have f442 := (f323.keep K325)
  obtain ⟨cq443, kq443, q443a, q443b, q443c⟩ := isOf hZ eq339 f440
  obtain ⟨_, _, ⟨T443, L443, k443, n443⟩, -, X443, ⟨Lc443, hQ443, l443, y443, z443⟩, st443⟩ := X339.interfaceBack hx (xi := xm33) (y := xm32) hown (mvT hZ (tw195 hw)) (mvT hZ (tw196 hw)) (mvT hZ (tw197 hw)) (mvT hZ (tw198 hw)) (mvT hZ (tw199 hw)) (mvT hZ (tw200 hw)) (mvT hZ (tw201 hw)) (mvT hZ (tw202 hw)) (by decide) (backOf (W := 0) (rm_ArrayList_add_0 l Z a0 hw [] b161 x334 uu5 uu6 x167 x176 moa T325.heap n0 f337 P325_0 f440 g220 P325_1 P325_2 P325_5 P325_4 M_moa f441 f442 f338 (Ne.symm ne427)) hZ (tw203 hw) (tw51 hw) (by decide) (by decide)) q443a q443b q443c (g := (mkF m 47 #[vr b113, vr b161, vi ar] [(.ref x334), (.ref b161)])) rfl (by rw [hml]; rfl) (Steps.refl _) (argsL := [(.ref x334)]) (rest := []) (lenOf pd_21 rfl) rfl (Nat.le_of_eq rfl) (hb hby d11_47) (fun _ _ => ⟨rfl, eq339, (by decide : 4 + 1 ≤ _), (by decide : 9 + 3 ≤ _)⟩)
  dsimp only [Pt.U, Pt.locs, Pt.cells, Pt.slots] at X443 l443 y443 z443 st443 hQ443
  subst l443 y443 z443
  obtain ⟨uu17, uu18, rfl, N443q, K443, P443_0, P443_1, P443_2, P443_3, P443_4, P443_5, P443_6⟩ := hQ443
  have N444 := Fr.app N340 N443q
  refine Go.step (fun _ k => st443.trans (XS.pop X443.here hx rfl (hb hby d11_52) rfl rfl (XS.iinc X443.here hx rfl (hb hby d11_53) rfl (l' := #[vr b113, vr b161, .val (.int (ar + ci1))]) rfl (XS.goto X443.here hx rfl (pc0 := 56) (pc' := 30) rfl (hb hby d11_56) (by decide) (by decide) (XS.iloadN X443.here hx rfl (hb hby d11_30) rfl (XS.aloadN X443.here hx rfl (hb hby d11_31) rfl rfl k)))))) ?_
  show Go p e below s _ _ _ T443 (mkF m 32 #[vr b113, vr b161, .val (.int (ar + ci1))] [(.ref b113), (.int (ar + ci1))])
  have f445 := (f330.keep K443 (ninS ne327 nin0))
  obtain ⟨T446, X446, e446, st446⟩ := getF X443 hx hZ hown (host := "") (Or.inl (tw35 hw)) Via.refl rfl f445 (g := (mkF m 32 #[vr b113, vr b161, .val (.int (ar + ci1))] [(.ref b113), (.int (ar + ci1))])) rfl rfl (hb hby d11_32)
  refine Go.step (fun _ k => st446 _ (XS.icmpYes X446.here hx rfl (pc0 := 35) (pc' := 59) rfl (hb hby d11_35) rfl (flt hl1).2.1 (by decide) (by decide) (XS.aloadN X446.here hx rfl (hb hby d11_59) rfl rfl k))) ?_
  show Go p e below s _ _ _ T446 (mkF m 60 #[vr b113, vr b161, .val (.int (ar + ci1))] [(.ref b161)])
  have z447 := Nat.le_trans (Nat.le_refl _) (Nat.le_of_eq g161.symm)
  have f448 := (((((Keep.refl h0 []).ext E161).trans K215 all0).trans K325 (allS (Or.inr z447) all0)).trans K443 (allS (Or.inr z447) all0))
  have f449 := (f440.keep K443)
  have f450 := (Nat.le_trans (Nat.le_trans (Nat.le_trans (Nat.le_refl _) E161.1) K215.1) K325.1)
  have z451 := Nat.le_trans f450 P443_3
  have ne452 : b161 ≠ uu17 := Nat.ne_of_lt (Nat.lt_of_lt_of_le f440.lt P443_3)
  have f453 := (Nat.le_trans (Nat.le_trans (Nat.le_trans (Nat.le_trans (Nat.le_refl _) E161.1) K215.1) K325.1) K443.1)
  exact Go.retA X446 hx hlk Bd.returns rfl rfl (hb hby d11_60) e446 ⟨b161, uu17, uu18, rfl, N444, f448, z447, f449, P443_0, P443_2, P443_1, z451, P443_4, P443_5, P443_6, ne452⟩ (by decide) (by decide)

theorem ef_ArrayList_size_0 (m : MethodId) (x0 : Addr) : entryFrame m #[(.ref x0)] 1 = mkF m 0 #[vr x0] [] := by first | (simp [entryFrame, mkF, argsToLocals, Value.category]; done) | rfl
def Q_ArrayList_size_0 (Z : State) (uu19 : Addr) (n461 : Int32) (h0 : Heap) (n0 : Nat) (v : Option Value) (h : Heap) (L : List Loc) : Prop := v = some (.int n461) ∧ Fr n0 L ∧ h = h0
set_option maxRecDepth 65536 in
set_option maxHeartbeats 40000000 in
theorem rm_ArrayList_size_0 (l : Launch) (Z : State) (a0 : Array Value) (hw : ∀ d ∈ tables_1, d.before a0 Z = true) (ws : List Jvm.Cond) (uu19 : Addr) (n461 : Int32) (h0 : Heap) (n0 : Nat) (Z0 : n0 ≤ h0.size) (F_size_b161_454 : Fld Z h0 uu19 xs35 "size" "I" (.int n461)) :
    MetFree l xm24 (head1 (Jvm.Cond.code xm24 jdk_38_method_8_code 1 (some .int) :: ws) xr35) (fun a U => a = #[(.ref uu19)] ∧ Z.Warmed39 U.vm ∧ U.heap = h0) (fun _ _ _ _ _ => True) (fun _ U o U' => ∃ v L, o = .returned v ∧ Q_ArrayList_size_0 Z uu19 n461 h0 n0 v U'.heap L ∧ FrameEnd U o U' L xr35.cells xr35.slots) := by
  refine MetFree.of_bodySF (plainFor_of_name pn_13) hisR ?_
  intro p e s m args below meth c s₁ Bd hml0 hP hK
  obtain ⟨rfl, hZ, hh⟩ := hP
  have hx := Bd.exec
  have hby := Bd.bytes
  have hlk : meth.locks = false := BodyLoose.notSynchronized Bd
  have hml : c.maxLocals = 1 := hml0
  have hown : s.vm.findClass xs35 = some m.cls := findClass_of_methodNamed Bd.named
  have hnm := (name_of_methodNamed Bd.named Bd.method).1
  have X0 : Stand p l e xr35 s m #[(.ref uu19)] below meth c s₁ [] 0 0 := Stand.of_body Bd
  have e0 : s₁.heap = h0 := by rw [← hh, Bd.state]; rfl
  have N0 := Fr.nil n0
  show Go p e below s (Q_ArrayList_size_0 Z uu19 n461 h0 n0) xr35.cells xr35.slots s₁ (entryFrame m #[(.ref uu19)] 1)
  refine Go.cast (ef_ArrayList_size_0 m uu19) ?_
  show Go p e below s _ _ _ s₁ (mkF m 0 #[vr uu19] [])
  refine Go.step (fun _ k => XS.aloadN X0.here hx rfl (hb hby d30_0) rfl rfl k) ?_
  show Go p e below s _ _ _ s₁ (mkF m 1 #[vr uu19] [(.ref uu19)])
  obtain ⟨T462, X462, e462, st462⟩ := getF X0 hx hZ hown (host := "") (Or.inl (tw158 hw)) Via.refl e0 F_size_b161_454 (g := (mkF m 1 #[vr uu19] [(.ref uu19)])) rfl rfl (hb hby d30_1)
  refine Go.step (fun _ k => st462 _ k) ?_
  show Go p e below s _ _ _ T462 (mkF m 4 #[vr uu19] [(.int n461)])
  exact Go.retI X462 hx hlk Bd.returns (hb hby d30_4) e462 ⟨rfl, N0, rfl⟩ (by decide) (by decide)

theorem ef_Preconditions_checkIndex_0 (m : MethodId) (x0 : Int32) (x1 : Int32) : entryFrame m #[(.int x0), (.int x1), .null] 3 = mkF m 0 #[vi x0, vi x1, .val .null] [] := by first | (simp [entryFrame, mkF, argsToLocals, Value.category]; done) | rfl
def Q_Preconditions_checkIndex_0 (Z : State) (n466 : Int32) (n468 : Int32) (h0 : Heap) (n0 : Nat) (v : Option Value) (h : Heap) (L : List Loc) : Prop := v = some (.int n466) ∧ Fr n0 L ∧ h = h0
set_option maxRecDepth 65536 in
set_option maxHeartbeats 40000000 in
theorem rm_Preconditions_checkIndex_0 (l : Launch) (Z : State) (a0 : Array Value) (hw : ∀ d ∈ tables_1, d.before a0 Z = true) (ws : List Jvm.Cond) (n466 : Int32) (n468 : Int32) (h0 : Heap) (n0 : Nat) (Z0 : n0 ≤ h0.size) (d_470 : ¬ n466 < ci0) (d_471 : n466 < n468) :
    MetFree l xm5 (head1 (Jvm.Cond.code xm5 jdk_41_method_11_code 3 (some .int) :: ws) xr35) (fun a U => a = #[(.int n466), (.int n468), .null] ∧ Z.Warmed39 U.vm ∧ U.heap = h0) (fun _ _ _ _ _ => True) (fun _ U o U' => ∃ v L, o = .returned v ∧ Q_Preconditions_checkIndex_0 Z n466 n468 h0 n0 v U'.heap L ∧ FrameEnd U o U' L xr35.cells xr35.slots) := by
  refine MetFree.of_bodySF (plainFor_of_name pn_15) hisR ?_
  intro p e s m args below meth c s₁ Bd hml0 hP hK
  obtain ⟨rfl, hZ, hh⟩ := hP
  have hx := Bd.exec
  have hby := Bd.bytes
  have hlk : meth.locks = false := BodyLoose.notSynchronized Bd
  have hml : c.maxLocals = 3 := hml0
  have hown : s.vm.findClass xs25 = some m.cls := findClass_of_methodNamed Bd.named
  have hnm := (name_of_methodNamed Bd.named Bd.method).1
  have X0 : Stand p l e xr35 s m #[(.int n466), (.int n468), .null] below meth c s₁ [] 0 0 := Stand.of_body Bd
  have e0 : s₁.heap = h0 := by rw [← hh, Bd.state]; rfl
  have N0 := Fr.nil n0
  show Go p e below s (Q_Preconditions_checkIndex_0 Z n466 n468 h0 n0) xr35.cells xr35.slots s₁ (entryFrame m #[(.int n466), (.int n468), .null] 3)
  refine Go.cast (ef_Preconditions_checkIndex_0 m n466 n468) ?_
  show Go p e below s _ _ _ s₁ (mkF m 0 #[vi n466, vi n468, .val .null] [])
  refine Go.step (fun _ k => XS.iloadN X0.here hx rfl (hb hby d34_0) rfl (XS.ifNo X0.here hx rfl (hb hby d34_1) rfl ((if0 _ _).trans (flt d_470).1) (XS.iloadN X0.here hx rfl (hb hby d34_4) rfl (XS.iloadN X0.here hx rfl (hb hby d34_5) rfl (XS.icmpYes X0.here hx rfl (pc0 := 6) (pc' := 16) rfl (hb hby d34_6) rfl (tlt d_471).1 (by decide) (by decide) (XS.iloadN X0.here hx rfl (hb hby d34_16) rfl k)))))) ?_
  show Go p e below s _ _ _ s₁ (mkF m 17 #[vi n466, vi n468, .val .null] [(.int n466)])
  exact Go.retI X0 hx hlk Bd.returns (hb hby d34_17) e0 ⟨rfl, N0, rfl⟩ (by decide) (by decide)

theorem ef_Objects_checkIndex_0 (m : MethodId) (x0 : Int32) (x1 : Int32) : entryFrame m #[(.int x0), (.int x1)] 2 = mkF m 0 #[vi x0, vi x1] [] := by first | (simp [entryFrame, mkF, argsToLocals, Value.category]; done) | rfl
def Q_Objects_checkIndex_0 (Z : State) (n466 : Int32) (n468 : Int32) (h0 : Heap) (n0 : Nat) (v : Option Value) (h : Heap) (L : List Loc) : Prop := v = some (.int n466) ∧ Fr n0 L ∧ h = h0
set_option maxRecDepth 65536 in
set_option maxHeartbeats 40000000 in
theorem rm_Objects_checkIndex_0 (l : Launch) (Z : State) (a0 : Array Value) (hw : ∀ d ∈ tables_1, d.before a0 Z = true) (ws : List Jvm.Cond) (n466 : Int32) (n468 : Int32) (h0 : Heap) (n0 : Nat) (Z0 : n0 ≤ h0.size) (d_472 : ¬ n466 < ci0) (d_473 : n466 < n468) :
    MetFree l xm2 (head1 (Jvm.Cond.code xm2 jdk_31_method_17_code 2 (some .int) :: ws) xr13) (fun a U => a = #[(.int n466), (.int n468)] ∧ Z.Warmed39 U.vm ∧ U.heap = h0) (fun _ _ _ _ _ => True) (fun _ U o U' => ∃ v L, o = .returned v ∧ Q_Objects_checkIndex_0 Z n466 n468 h0 n0 v U'.heap L ∧ FrameEnd U o U' L xr13.cells xr13.slots) := by
  refine MetFree.of_bodySF (plainFor_of_name pn_5) hisR ?_
  intro p e s m args below meth c s₁ Bd hml0 hP hK
  obtain ⟨rfl, hZ, hh⟩ := hP
  have hx := Bd.exec
  have hby := Bd.bytes
  have hlk : meth.locks = false := BodyLoose.notSynchronized Bd
  have hml : c.maxLocals = 2 := hml0
  have hown : s.vm.findClass xs38 = some m.cls := findClass_of_methodNamed Bd.named
  have hnm := (name_of_methodNamed Bd.named Bd.method).1
  have X0 : Stand p l e xr13 s m #[(.int n466), (.int n468)] below meth c s₁ [] 0 0 := Stand.of_body Bd
  have e0 : s₁.heap = h0 := by rw [← hh, Bd.state]; rfl
  have N0 := Fr.nil n0
  show Go p e below s (Q_Objects_checkIndex_0 Z n466 n468 h0 n0) xr13.cells xr13.slots s₁ (entryFrame m #[(.int n466), (.int n468)] 2)
  refine Go.cast (ef_Objects_checkIndex_0 m n466 n468) ?_
  show Go p e below s _ _ _ s₁ (mkF m 0 #[vi n466, vi n468] [])
  refine Go.step (fun _ k => XS.iloadN X0.here hx rfl (hb hby d33_0) rfl (XS.iloadN X0.here hx rfl (hb hby d33_1) rfl (XS.aconstNull X0.here hx rfl (hb hby d33_2) k))) ?_
  show Go p e below s _ _ _ s₁ (mkF m 3 #[vi n466, vi n468] [.null, (.int n468), (.int n466)])
  obtain ⟨_, _, ⟨T474, L474, k474, n474⟩, -, X474, ⟨Lc474, hQ474, l474, y474, z474⟩, st474⟩ := Jvm.LawKit.callS X0 hx (y := xm5) hown (mvT hZ (tw257 hw)) (mvT hZ (tw258 hw)) (mvT hZ (tw259 hw)) (mvT hZ (tw260 hw)) (by decide) (backOf (W := 0) (rm_Preconditions_checkIndex_0 l Z a0 hw [] n466 n468 h0 n0 Z0 d_472 d_473) hZ (tw260 hw) (tw259 hw) (by decide) (by decide)) (g := (mkF m 3 #[vi n466, vi n468] [.null, (.int n468), (.int n466)])) rfl (by rw [hml]; rfl) (argsL := [(.int n466), (.int n468), .null]) (rest := []) (lenOf pd_23 rfl) rfl (Nat.le_of_eq rfl) (hb hby d33_3) (fun _ _ => ⟨rfl, e0, (by decide : 0 + 0 ≤ _), (by decide : 0 + 0 ≤ _)⟩)
  dsimp only [Pt.U, Pt.locs, Pt.cells, Pt.slots] at X474 l474 y474 z474 st474 hQ474
  subst l474 y474 z474
  obtain ⟨rfl, N474q, eq474⟩ := hQ474
  have N475 := Fr.app N0 N474q
  refine Go.step (fun _ k => st474 _ k) ?_
  show Go p e below s _ _ _ T474 (mkF m 6 #[vi n466, vi n468] [(.int n466)])
  exact Go.retI X474 hx hlk Bd.returns (hb hby d33_6) eq474 ⟨rfl, N475, rfl⟩ (by decide) (by decide)

theorem ef_ArrayList_elementData_0 (m : MethodId) (x0 : Addr) (x1 : Int32) : entryFrame m #[(.ref x0), (.int x1)] 2 = mkF m 0 #[vr x0, vi x1] [] := by first | (simp [entryFrame, mkF, argsToLocals, Value.category]; done) | rfl
def Q_ArrayList_elementData_0 (Z : State) (uu19 : Addr) (n466 : Int32) (uu20 : Addr) (uu21 : ClassId) (n481 : Int32) (l482 : List Value) (x483 : Addr) (h0 : Heap) (n0 : Nat) (v : Option Value) (h : Heap) (L : List Loc) : Prop := v = some (.ref x483) ∧ Fr n0 L ∧ h = h0
set_option maxRecDepth 65536 in
set_option maxHeartbeats 40000000 in
theorem rm_ArrayList_elementData_0 (l : Launch) (Z : State) (a0 : Array Value) (hw : ∀ d ∈ tables_1, d.before a0 Z = true) (ws : List Jvm.Cond) (uu19 : Addr) (n466 : Int32) (uu20 : Addr) (uu21 : ClassId) (n481 : Int32) (l482 : List Value) (x483 : Addr) (h0 : Heap) (n0 : Nat) (Z0 : n0 ≤ h0.size) (F_elementData_b161_454 : Fld Z h0 uu19 xs35 "elementData" xs34 (.ref uu20)) (V_b363_381_386_401_406_434_443_454 : Arv Z h0 uu20 uu21 (.object xs39) n481 l482 .null) (pk_488 : (l482 : List Value).getD (n466).toNatClampNeg .null = .ref x483) (d_489 : ¬ n466 < ci0) (d_490 : n466 < n481) :
    MetFree l xm4 (head1 (Jvm.Cond.code xm4 jdk_38_method_18_code 2 (some (.object xs39)) :: ws) xr35) (fun a U => a = #[(.ref uu19), (.int n466)] ∧ Z.Warmed39 U.vm ∧ U.heap = h0) (fun _ _ _ _ _ => True) (fun _ U o U' => ∃ v L, o = .returned v ∧ Q_ArrayList_elementData_0 Z uu19 n466 uu20 uu21 n481 l482 x483 h0 n0 v U'.heap L ∧ FrameEnd U o U' L xr35.cells xr35.slots) := by
  refine MetFree.of_bodySF (plainFor_of_name pn_13) hisR ?_
  intro p e s m args below meth c s₁ Bd hml0 hP hK
  obtain ⟨rfl, hZ, hh⟩ := hP
  have hx := Bd.exec
  have hby := Bd.bytes
  have hlk : meth.locks = false := BodyLoose.notSynchronized Bd
  have hml : c.maxLocals = 2 := hml0
  have hown : s.vm.findClass xs35 = some m.cls := findClass_of_methodNamed Bd.named
  have hnm := (name_of_methodNamed Bd.named Bd.method).1
  have X0 : Stand p l e xr35 s m #[(.ref uu19), (.int n466)] below meth c s₁ [] 0 0 := Stand.of_body Bd
  have e0 : s₁.heap = h0 := by rw [← hh, Bd.state]; rfl
  have N0 := Fr.nil n0
  show Go p e below s (Q_ArrayList_elementData_0 Z uu19 n466 uu20 uu21 n481 l482 x483 h0 n0) xr35.cells xr35.slots s₁ (entryFrame m #[(.ref uu19), (.int n466)] 2)
  refine Go.cast (ef_ArrayList_elementData_0 m uu19 n466) ?_
  show Go p e below s _ _ _ s₁ (mkF m 0 #[vr uu19, vi n466] [])
  refine Go.step (fun _ k => XS.aloadN X0.here hx rfl (hb hby d35_0) rfl rfl k) ?_
  show Go p e below s _ _ _ s₁ (mkF m 1 #[vr uu19, vi n466] [(.ref uu19)])
  obtain ⟨T480, X480, e480, st480⟩ := getF X0 hx hZ hown (host := "") (Or.inl (tw186 hw)) Via.refl e0 F_elementData_b161_454 (g := (mkF m 1 #[vr uu19, vi n466] [(.ref uu19)])) rfl rfl (hb hby d35_1)
  refine Go.step (fun _ k => st480 _ (XS.iloadN X480.here hx rfl (hb hby d35_4) rfl k)) ?_
  show Go p e below s _ _ _ T480 (mkF m 5 #[vr uu19, vi n466] [(.int n466), (.ref uu20)])
  obtain ⟨cl491, Ar491, -, Sz491, Ng491, Hs491, Ft491⟩ := id V_b363_381_386_401_406_434_443_454
  have in491 : ¬ (n466 < 0 ∨ cl491.slots.size ≤ (n466).toNatClampNeg) := inb_of Sz491 ⟨d_489, d_490⟩
  have at491 : cl491.slots[(n466).toNatClampNeg]? = some (.ref x483) := Hs491.at in491 pk_488
  refine Go.step (fun _ k => X480.aaload hx (j := n466) (v := (.ref x483)) (by rw [e480]; exact Ar491.1) (State.isArrayOf_alike hZ.alike Ar491.2.1) rfl Ar491.2.2 in491 at491 (g := (mkF m 5 #[vr uu19, vi n466] [(.int n466), (.ref uu20)])) rfl rfl (hb hby d35_5) _ k) ?_
  show Go p e below s _ _ _ T480 (mkF m 6 #[vr uu19, vi n466] [(.ref x483)])
  exact Go.retA X480 hx hlk Bd.returns rfl rfl (hb hby d35_6) e480 ⟨rfl, N0, rfl⟩ (by decide) (by decide)

theorem ef_ArrayList_get_0 (m : MethodId) (x0 : Addr) (x1 : Int32) : entryFrame m #[(.ref x0), (.int x1)] 2 = mkF m 0 #[vr x0, vi x1] [] := by first | (simp [entryFrame, mkF, argsToLocals, Value.category]; done) | rfl
def Q_ArrayList_get_0 (Z : State) (uu19 : Addr) (n466 : Int32) (n468 : Int32) (uu20 : Addr) (uu21 : ClassId) (n481 : Int32) (l482 : List Value) (x484 : Addr) (h0 : Heap) (n0 : Nat) (v : Option Value) (h : Heap) (L : List Loc) : Prop := v = some (.ref x484) ∧ Fr n0 L ∧ h = h0
set_option maxRecDepth 65536 in
set_option maxHeartbeats 40000000 in
theorem rm_ArrayList_get_0 (l : Launch) (Z : State) (a0 : Array Value) (hw : ∀ d ∈ tables_1, d.before a0 Z = true) (ws : List Jvm.Cond) (uu19 : Addr) (n466 : Int32) (n468 : Int32) (uu20 : Addr) (uu21 : ClassId) (n481 : Int32) (l482 : List Value) (x484 : Addr) (h0 : Heap) (n0 : Nat) (Z0 : n0 ≤ h0.size) (F_size_b161_454 : Fld Z h0 uu19 xs35 "size" "I" (.int n468)) (d_476 : ¬ n466 < ci0) (d_477 : n466 < n468) (E_b161_454 : Exa Z h0 uu19 xs35) (F_elementData_b161_454 : Fld Z h0 uu19 xs35 "elementData" xs34 (.ref uu20)) (V_b363_381_386_401_406_434_443_454 : Arv Z h0 uu20 uu21 (.object xs39) n481 l482 .null) (pk_487 : (l482 : List Value).getD (n466).toNatClampNeg .null = .ref x484) (d_492 : n466 < n481) :
    MetFree l xm34 (head1 (Jvm.Cond.code xm34 jdk_38_method_20_code 2 (some (.object xs39)) :: ws) xr20) (fun a U => a = #[(.ref uu19), (.int n466)] ∧ Z.Warmed39 U.vm ∧ U.heap = h0) (fun _ _ _ _ _ => True) (fun _ U o U' => ∃ v L, o = .returned v ∧ Q_ArrayList_get_0 Z uu19 n466 n468 uu20 uu21 n481 l482 x484 h0 n0 v U'.heap L ∧ FrameEnd U o U' L xr20.cells xr20.slots) := by
  refine MetFree.of_bodySF (plainFor_of_name pn_13) hisR ?_
  intro p e s m args below meth c s₁ Bd hml0 hP hK
  obtain ⟨rfl, hZ, hh⟩ := hP
  have hx := Bd.exec
  have hby := Bd.bytes
  have hlk : meth.locks = false := BodyLoose.notSynchronized Bd
  have hml : c.maxLocals = 2 := hml0
  have hown : s.vm.findClass xs35 = some m.cls := findClass_of_methodNamed Bd.named
  have hnm := (name_of_methodNamed Bd.named Bd.method).1
  have X0 : Stand p l e xr20 s m #[(.ref uu19), (.int n466)] below meth c s₁ [] 0 0 := Stand.of_body Bd
  have e0 : s₁.heap = h0 := by rw [← hh, Bd.state]; rfl
  have N0 := Fr.nil n0
  show Go p e below s (Q_ArrayList_get_0 Z uu19 n466 n468 uu20 uu21 n481 l482 x484 h0 n0) xr20.cells xr20.slots s₁ (entryFrame m #[(.ref uu19), (.int n466)] 2)
  refine Go.cast (ef_ArrayList_get_0 m uu19 n466) ?_
  show Go p e below s _ _ _ s₁ (mkF m 0 #[vr uu19, vi n466] [])
  refine Go.step (fun _ k => XS.iloadN X0.here hx rfl (hb hby d32_0) rfl (XS.aloadN X0.here hx rfl (hb hby d32_1) rfl rfl k)) ?_
  show Go p e below s _ _ _ s₁ (mkF m 2 #[vr uu19, vi n466] [(.ref uu19), (.int n466)])
  obtain ⟨T469, X469, e469, st469⟩ := getF X0 hx hZ hown (host := "") (Or.inl (tw158 hw)) Via.refl e0 F_size_b161_454 (g := (mkF m 2 #[vr uu19, vi n466] [(.ref uu19), (.int n466)])) rfl rfl (hb hby d32_2)
  refine Go.step (fun _ k => st469 _ k) ?_
  show Go p e below s _ _ _ T469 (mkF m 5 #[vr uu19, vi n466] [(.int n468), (.int n466)])
  obtain ⟨_, _, ⟨T478, L478, k478, n478⟩, -, X478, ⟨Lc478, hQ478, l478, y478, z478⟩, st478⟩ := Jvm.LawKit.callS X469 hx (y := xm2) hown (mvT hZ (tw254 hw)) (mvT hZ (tw255 hw)) (mvT hZ (tw31 hw)) (mvT hZ (tw256 hw)) (by decide) (backOf (W := 0) (rm_Objects_checkIndex_0 l Z a0 hw [] n466 n468 h0 n0 Z0 d_476 d_477) hZ (tw256 hw) (tw31 hw) (by decide) (by decide)) (g := (mkF m 5 #[vr uu19, vi n466] [(.int n468), (.int n466)])) rfl (by rw [hml]; rfl) (argsL := [(.int n466), (.int n468)]) (rest := []) (lenOf pd_13 rfl) rfl (Nat.le_of_eq rfl) (hb hby d32_5) (fun _ _ => ⟨rfl, e469, (by decide : 0 + 0 ≤ _), (by decide : 0 + 0 ≤ _)⟩)
  dsimp only [Pt.U, Pt.locs, Pt.cells, Pt.slots] at X478 l478 y478 z478 st478 hQ478
  subst l478 y478 z478
  obtain ⟨rfl, N478q, eq478⟩ := hQ478
  have N479 := Fr.app N0 N478q
  refine Go.step (fun _ k => st478 _ (XS.pop X478.here hx rfl (hb hby d32_8) rfl rfl (XS.aloadN X478.here hx rfl (hb hby d32_9) rfl rfl (XS.iloadN X478.here hx rfl (hb hby d32_10) rfl k)))) ?_
  show Go p e below s _ _ _ T478 (mkF m 11 #[vr uu19, vi n466] [(.int n466), (.ref uu19)])
  obtain ⟨cq493, kq493, q493a, q493b, q493c⟩ := isOf hZ eq478 E_b161_454
  obtain ⟨_, _, ⟨T493, L493, k493, n493⟩, -, X493, ⟨Lc493, hQ493, l493, y493, z493⟩, st493⟩ := X478.virtualBack hx (y := xm4) (z := xm4) hown (mvT hZ (tw261 hw)) (mvT hZ (tw262 hw)) (notFace_of_selects (args := #[]) (mvT hZ (tw264 hw))) (mvT hZ (tw264 hw)) (mvT hZ (tw263 hw)) (by decide) (backOf (W := 0) (rm_ArrayList_elementData_0 l Z a0 hw [] uu19 n466 uu20 uu21 n481 l482 x484 h0 n0 Z0 F_elementData_b161_454 V_b363_381_386_401_406_434_443_454 pk_487 d_476 d_492) hZ (tw265 hw) (tw51 hw) (by decide) (by decide)) q493a q493c (g := (mkF m 11 #[vr uu19, vi n466] [(.int n466), (.ref uu19)])) rfl (by rw [hml]; rfl) (Steps.refl _) (argsL := [(.int n466)]) (rest := []) (lenOf pd_1 rfl) rfl (Nat.le_of_eq rfl) (hb hby d32_11) (fun _ _ => ⟨rfl, eq478, (by decide : 0 + 0 ≤ _), (by decide : 0 + 0 ≤ _)⟩)
  dsimp only [Pt.U, Pt.locs, Pt.cells, Pt.slots] at X493 l493 y493 z493 st493 hQ493
  subst l493 y493 z493
  obtain ⟨rfl, N493q, eq493⟩ := hQ493
  have N494 := Fr.app N479 N493q
  refine Go.step (fun _ k => st493.trans k) ?_
  show Go p e below s _ _ _ T493 (mkF m 14 #[vr uu19, vi n466] [(.ref x484)])
  exact Go.retA X493 hx hlk Bd.returns rfl rfl (hb hby d32_14) eq493 ⟨rfl, N494, rfl⟩ (by decide) (by decide)

theorem ef_TripNightInTownPinLaw_at_0 (m : MethodId) (x0 : Addr) (x1 : Int32) (x2 : Int32) (x3 : Addr) : entryFrame m #[(.ref x0), (.int x1), (.int x2), (.ref x3)] 4 = mkF m 0 #[vr x0, vi x1, vi x2, vr x3] [] := by first | (simp [entryFrame, mkF, argsToLocals, Value.category]; done) | rfl
def Q_TripNightInTownPinLaw_at_0 (Z : State) (uu19 : Addr) (n465 : Int32) (n466 : Int32) (yd : Addr) (n468 : Int32) (uu20 : Addr) (uu21 : ClassId) (n481 : Int32) (l482 : List Value) (x485 : Addr) (h0 : Heap) (n0 : Nat) (v : Option Value) (h : Heap) (L : List Loc) : Prop := v = some cv1 ∧ Fr n0 L ∧ h = h0
set_option maxRecDepth 65536 in
set_option maxHeartbeats 40000000 in
theorem rm_TripNightInTownPinLaw_at_0 (l : Launch) (Z : State) (a0 : Array Value) (hw : ∀ d ∈ tables_1, d.before a0 Z = true) (ws : List Jvm.Cond) (uu19 : Addr) (n465 : Int32) (n466 : Int32) (yd : Addr) (n468 : Int32) (uu20 : Addr) (uu21 : ClassId) (n481 : Int32) (l482 : List Value) (x485 : Addr) (h0 : Heap) (n0 : Nat) (Z0 : n0 ≤ h0.size) (d_467 : n466 < n465) (E_b161_454 : Exa Z h0 uu19 xs35) (F_size_b161_454 : Fld Z h0 uu19 xs35 "size" "I" (.int n468)) (F_elementData_b161_454 : Fld Z h0 uu19 xs35 "elementData" xs34 (.ref uu20)) (V_b363_381_386_401_406_434_443_454 : Arv Z h0 uu20 uu21 (.object xs39) n481 l482 .null) (pk_486 : (l482 : List Value).getD (n466).toNatClampNeg .null = .ref x485) (d_495 : ¬ n466 < ci0) (d_496 : n466 < n468) (d_497 : n466 < n481) (hey : x485 = yd) :
    MetFree l xm39 (head1 (Jvm.Cond.code xm39 method_3_code 4 (some .boolean) :: ws) xr21) (fun a U => a = #[(.ref uu19), (.int n465), (.int n466), (.ref yd)] ∧ Z.Warmed39 U.vm ∧ U.heap = h0) (fun _ _ _ _ _ => True) (fun _ U o U' => ∃ v L, o = .returned v ∧ Q_TripNightInTownPinLaw_at_0 Z uu19 n465 n466 yd n468 uu20 uu21 n481 l482 x485 h0 n0 v U'.heap L ∧ FrameEnd U o U' L xr21.cells xr21.slots) := by
  refine MetFree.of_bodySF (plainFor_of_name pn_16) hisR ?_
  intro p e s m args below meth c s₁ Bd hml0 hP hK
  obtain ⟨rfl, hZ, hh⟩ := hP
  have hx := Bd.exec
  have hby := Bd.bytes
  have hlk : meth.locks = false := BodyLoose.notSynchronized Bd
  have hml : c.maxLocals = 4 := hml0
  have hown : s.vm.findClass xs6 = some m.cls := findClass_of_methodNamed Bd.named
  have hnm := (name_of_methodNamed Bd.named Bd.method).1
  have X0 : Stand p l e xr21 s m #[(.ref uu19), (.int n465), (.int n466), (.ref yd)] below meth c s₁ [] 0 0 := Stand.of_body Bd
  have e0 : s₁.heap = h0 := by rw [← hh, Bd.state]; rfl
  have N0 := Fr.nil n0
  show Go p e below s (Q_TripNightInTownPinLaw_at_0 Z uu19 n465 n466 yd n468 uu20 uu21 n481 l482 x485 h0 n0) xr21.cells xr21.slots s₁ (entryFrame m #[(.ref uu19), (.int n465), (.int n466), (.ref yd)] 4)
  refine Go.cast (ef_TripNightInTownPinLaw_at_0 m uu19 n465 n466 yd) ?_
  show Go p e below s _ _ _ s₁ (mkF m 0 #[vr uu19, vi n465, vi n466, vr yd] [])
  refine Go.step (fun _ k => XS.iloadN X0.here hx rfl (hb hby d31_0) rfl (XS.iloadN X0.here hx rfl (hb hby d31_1) rfl (XS.icmpNo X0.here hx rfl (hb hby d31_2) rfl (tlt d_467).2.1 (XS.aloadN X0.here hx rfl (hb hby d31_5) rfl rfl (XS.iloadN X0.here hx rfl (hb hby d31_6) rfl k))))) ?_
  show Go p e below s _ _ _ s₁ (mkF m 7 #[vr uu19, vi n465, vi n466, vr yd] [(.int n466), (.ref uu19)])
  obtain ⟨cq498, kq498, q498a, q498b, q498c⟩ := isOf hZ e0 E_b161_454
  obtain ⟨_, _, ⟨T498, L498, k498, n498⟩, -, X498, ⟨Lc498, hQ498, l498, y498, z498⟩, st498⟩ := X0.interfaceBack hx (xi := xm29) (y := xm34) hown (mvT hZ (tw248 hw)) (mvT hZ (tw76 hw)) (mvT hZ (tw77 hw)) (mvT hZ (tw249 hw)) (mvT hZ (tw250 hw)) (mvT hZ (tw251 hw)) (mvT hZ (tw252 hw)) (mvT hZ (tw202 hw)) (by decide) (backOf (W := 0) (rm_ArrayList_get_0 l Z a0 hw [] uu19 n466 n468 uu20 uu21 n481 l482 x485 h0 n0 Z0 F_size_b161_454 d_495 d_496 E_b161_454 F_elementData_b161_454 V_b363_381_386_401_406_434_443_454 pk_486 d_497) hZ (tw253 hw) (tw51 hw) (by decide) (by decide)) q498a q498b q498c (g := (mkF m 7 #[vr uu19, vi n465, vi n466, vr yd] [(.int n466), (.ref uu19)])) rfl (by rw [hml]; rfl) (Steps.refl _) (argsL := [(.int n466)]) (rest := []) (lenOf pd_1 rfl) rfl (Nat.le_of_eq rfl) (hb hby d31_7) (fun _ _ => ⟨rfl, e0, (by decide : 0 + 0 ≤ _), (by decide : 0 + 0 ≤ _)⟩)
  dsimp only [Pt.U, Pt.locs, Pt.cells, Pt.slots] at X498 l498 y498 z498 st498 hQ498
  subst l498 y498 z498
  obtain ⟨rfl, N498q, eq498⟩ := hQ498
  have N499 := Fr.app N0 N498q
  refine Go.step (fun _ k => st498.trans (XS.aloadN X498.here hx rfl (hb hby d31_12) rfl rfl (Jvm.RoadKit.acmp (g := (mkF m 13 #[vr uu19, vi n465, vi n466, vr yd] [(.ref yd), (.ref x485)])) X498 hx rfl rfl rfl (pc0 := 13) (pc' := 16) (same := true) rfl (hb hby d31_13) rfl (decide_eq_true (congrArg Value.ref hey)) (by decide) (by decide) (XS.iconst X498.here hx rfl (hb hby d31_16) (XS.goto X498.here hx rfl (pc0 := 17) (pc' := 21) rfl (hb hby d31_17) (by decide) (by decide) k))))) ?_
  show Go p e below s _ _ _ T498 (mkF m 21 #[vr uu19, vi n465, vi n466, vr yd] [cv1])
  exact Go.retN X498 hx hlk (t := .boolean) Bd.returns (by simp) (hb hby d31_21) eq498 ⟨rfl, N499, rfl⟩ (by decide) (by decide)

theorem ef_TripNightInTownPinLaw_at_1 (m : MethodId) (x0 : Addr) (x1 : Int32) (x2 : Int32) (x3 : Addr) : entryFrame m #[(.ref x0), (.int x1), (.int x2), (.ref x3)] 4 = mkF m 0 #[vr x0, vi x1, vi x2, vr x3] [] := by first | (simp [entryFrame, mkF, argsToLocals, Value.category]; done) | rfl
def Q_TripNightInTownPinLaw_at_1 (Z : State) (uu19 : Addr) (n503 : Int32) (n504 : Int32) (yd : Addr) (n506 : Int32) (uu20 : Addr) (uu21 : ClassId) (n507 : Int32) (l508 : List Value) (x509 : Addr) (h0 : Heap) (n0 : Nat) (v : Option Value) (h : Heap) (L : List Loc) : Prop := v = some cv0 ∧ Fr n0 L ∧ h = h0
set_option maxRecDepth 65536 in
set_option maxHeartbeats 40000000 in
theorem rm_TripNightInTownPinLaw_at_1 (l : Launch) (Z : State) (a0 : Array Value) (hw : ∀ d ∈ tables_1, d.before a0 Z = true) (ws : List Jvm.Cond) (uu19 : Addr) (n503 : Int32) (n504 : Int32) (yd : Addr) (n506 : Int32) (uu20 : Addr) (uu21 : ClassId) (n507 : Int32) (l508 : List Value) (x509 : Addr) (h0 : Heap) (n0 : Nat) (Z0 : n0 ≤ h0.size) (d_505 : n504 < n503) (E_b161_454 : Exa Z h0 uu19 xs35) (F_size_b161_454 : Fld Z h0 uu19 xs35 "size" "I" (.int n506)) (F_elementData_b161_454 : Fld Z h0 uu19 xs35 "elementData" xs34 (.ref uu20)) (V_b363_381_386_401_406_434_443_454 : Arv Z h0 uu20 uu21 (.object xs39) n507 l508 .null) (pk_510 : (l508 : List Value).getD (n504).toNatClampNeg .null = .ref x509) (d_511 : ¬ n504 < ci0) (d_512 : n504 < n506) (d_513 : n504 < n507) (ne_x509_yd : x509 ≠ yd) :
    MetFree l xm39 (head1 (Jvm.Cond.code xm39 method_3_code 4 (some .boolean) :: ws) xr21) (fun a U => a = #[(.ref uu19), (.int n503), (.int n504), (.ref yd)] ∧ Z.Warmed39 U.vm ∧ U.heap = h0) (fun _ _ _ _ _ => True) (fun _ U o U' => ∃ v L, o = .returned v ∧ Q_TripNightInTownPinLaw_at_1 Z uu19 n503 n504 yd n506 uu20 uu21 n507 l508 x509 h0 n0 v U'.heap L ∧ FrameEnd U o U' L xr21.cells xr21.slots) := by
  refine MetFree.of_bodySF (plainFor_of_name pn_16) hisR ?_
  intro p e s m args below meth c s₁ Bd hml0 hP hK
  obtain ⟨rfl, hZ, hh⟩ := hP
  have hx := Bd.exec
  have hby := Bd.bytes
  have hlk : meth.locks = false := BodyLoose.notSynchronized Bd
  have hml : c.maxLocals = 4 := hml0
  have hown : s.vm.findClass xs6 = some m.cls := findClass_of_methodNamed Bd.named
  have hnm := (name_of_methodNamed Bd.named Bd.method).1
  have X0 : Stand p l e xr21 s m #[(.ref uu19), (.int n503), (.int n504), (.ref yd)] below meth c s₁ [] 0 0 := Stand.of_body Bd
  have e0 : s₁.heap = h0 := by rw [← hh, Bd.state]; rfl
  have N0 := Fr.nil n0
  show Go p e below s (Q_TripNightInTownPinLaw_at_1 Z uu19 n503 n504 yd n506 uu20 uu21 n507 l508 x509 h0 n0) xr21.cells xr21.slots s₁ (entryFrame m #[(.ref uu19), (.int n503), (.int n504), (.ref yd)] 4)
  refine Go.cast (ef_TripNightInTownPinLaw_at_1 m uu19 n503 n504 yd) ?_
  show Go p e below s _ _ _ s₁ (mkF m 0 #[vr uu19, vi n503, vi n504, vr yd] [])
  refine Go.step (fun _ k => XS.iloadN X0.here hx rfl (hb hby d31_0) rfl (XS.iloadN X0.here hx rfl (hb hby d31_1) rfl (XS.icmpNo X0.here hx rfl (hb hby d31_2) rfl (tlt d_505).2.1 (XS.aloadN X0.here hx rfl (hb hby d31_5) rfl rfl (XS.iloadN X0.here hx rfl (hb hby d31_6) rfl k))))) ?_
  show Go p e below s _ _ _ s₁ (mkF m 7 #[vr uu19, vi n503, vi n504, vr yd] [(.int n504), (.ref uu19)])
  obtain ⟨cq514, kq514, q514a, q514b, q514c⟩ := isOf hZ e0 E_b161_454
  obtain ⟨_, _, ⟨T514, L514, k514, n514⟩, -, X514, ⟨Lc514, hQ514, l514, y514, z514⟩, st514⟩ := X0.interfaceBack hx (xi := xm29) (y := xm34) hown (mvT hZ (tw248 hw)) (mvT hZ (tw76 hw)) (mvT hZ (tw77 hw)) (mvT hZ (tw249 hw)) (mvT hZ (tw250 hw)) (mvT hZ (tw251 hw)) (mvT hZ (tw252 hw)) (mvT hZ (tw202 hw)) (by decide) (backOf (W := 0) (rm_ArrayList_get_0 l Z a0 hw [] uu19 n504 n506 uu20 uu21 n507 l508 x509 h0 n0 Z0 F_size_b161_454 d_511 d_512 E_b161_454 F_elementData_b161_454 V_b363_381_386_401_406_434_443_454 pk_510 d_513) hZ (tw253 hw) (tw51 hw) (by decide) (by decide)) q514a q514b q514c (g := (mkF m 7 #[vr uu19, vi n503, vi n504, vr yd] [(.int n504), (.ref uu19)])) rfl (by rw [hml]; rfl) (Steps.refl _) (argsL := [(.int n504)]) (rest := []) (lenOf pd_1 rfl) rfl (Nat.le_of_eq rfl) (hb hby d31_7) (fun _ _ => ⟨rfl, e0, (by decide : 0 + 0 ≤ _), (by decide : 0 + 0 ≤ _)⟩)
  dsimp only [Pt.U, Pt.locs, Pt.cells, Pt.slots] at X514 l514 y514 z514 st514 hQ514
  subst l514 y514 z514
  obtain ⟨rfl, N514q, eq514⟩ := hQ514
  have N515 := Fr.app N0 N514q
  refine Go.step (fun _ k => st514.trans (XS.aloadN X514.here hx rfl (hb hby d31_12) rfl rfl (Jvm.RoadKit.acmp (g := (mkF m 13 #[vr uu19, vi n503, vi n504, vr yd] [(.ref yd), (.ref x509)])) X514 hx rfl rfl rfl (pc0 := 13) (pc' := 20) (same := false) rfl (hb hby d31_13) rfl (decide_eq_false (fun q => ne_x509_yd (Value.ref.inj q))) (by decide) (by decide) (XS.iconst X514.here hx rfl (hb hby d31_20) k)))) ?_
  show Go p e below s _ _ _ T514 (mkF m 21 #[vr uu19, vi n503, vi n504, vr yd] [cv0])
  exact Go.retN X514 hx hlk (t := .boolean) Bd.returns (by simp) (hb hby d31_21) eq514 ⟨rfl, N515, rfl⟩ (by decide) (by decide)

theorem ef_TripNightInTownPinLaw_at_2 (m : MethodId) (x0 : Addr) (x1 : Int32) (x2 : Int32) (x3 : Addr) : entryFrame m #[(.ref x0), (.int x1), (.int x2), (.ref x3)] 4 = mkF m 0 #[vr x0, vi x1, vi x2, vr x3] [] := by first | (simp [entryFrame, mkF, argsToLocals, Value.category]; done) | rfl
def Q_TripNightInTownPinLaw_at_2 (Z : State) (uu19 : Addr) (n518 : Int32) (n519 : Int32) (yd : Addr) (h0 : Heap) (n0 : Nat) (v : Option Value) (h : Heap) (L : List Loc) : Prop := v = some cv0 ∧ Fr n0 L ∧ h = h0
set_option maxRecDepth 65536 in
set_option maxHeartbeats 40000000 in
theorem rm_TripNightInTownPinLaw_at_2 (l : Launch) (Z : State) (a0 : Array Value) (hw : ∀ d ∈ tables_1, d.before a0 Z = true) (ws : List Jvm.Cond) (uu19 : Addr) (n518 : Int32) (n519 : Int32) (yd : Addr) (h0 : Heap) (n0 : Nat) (Z0 : n0 ≤ h0.size) (d_520 : ¬ n519 < n518) :
    MetFree l xm39 (head1 (Jvm.Cond.code xm39 method_3_code 4 (some .boolean) :: ws) xr35) (fun a U => a = #[(.ref uu19), (.int n518), (.int n519), (.ref yd)] ∧ Z.Warmed39 U.vm ∧ U.heap = h0) (fun _ _ _ _ _ => True) (fun _ U o U' => ∃ v L, o = .returned v ∧ Q_TripNightInTownPinLaw_at_2 Z uu19 n518 n519 yd h0 n0 v U'.heap L ∧ FrameEnd U o U' L xr35.cells xr35.slots) := by
  refine MetFree.of_bodySF (plainFor_of_name pn_16) hisR ?_
  intro p e s m args below meth c s₁ Bd hml0 hP hK
  obtain ⟨rfl, hZ, hh⟩ := hP
  have hx := Bd.exec
  have hby := Bd.bytes
  have hlk : meth.locks = false := BodyLoose.notSynchronized Bd
  have hml : c.maxLocals = 4 := hml0
  have hown : s.vm.findClass xs6 = some m.cls := findClass_of_methodNamed Bd.named
  have hnm := (name_of_methodNamed Bd.named Bd.method).1
  have X0 : Stand p l e xr35 s m #[(.ref uu19), (.int n518), (.int n519), (.ref yd)] below meth c s₁ [] 0 0 := Stand.of_body Bd
  have e0 : s₁.heap = h0 := by rw [← hh, Bd.state]; rfl
  have N0 := Fr.nil n0
  show Go p e below s (Q_TripNightInTownPinLaw_at_2 Z uu19 n518 n519 yd h0 n0) xr35.cells xr35.slots s₁ (entryFrame m #[(.ref uu19), (.int n518), (.int n519), (.ref yd)] 4)
  refine Go.cast (ef_TripNightInTownPinLaw_at_2 m uu19 n518 n519 yd) ?_
  show Go p e below s _ _ _ s₁ (mkF m 0 #[vr uu19, vi n518, vi n519, vr yd] [])
  refine Go.step (fun _ k => XS.iloadN X0.here hx rfl (hb hby d31_0) rfl (XS.iloadN X0.here hx rfl (hb hby d31_1) rfl (XS.icmpYes X0.here hx rfl (pc0 := 2) (pc' := 20) rfl (hb hby d31_2) rfl (flt d_520).2.1 (by decide) (by decide) (XS.iconst X0.here hx rfl (hb hby d31_20) k)))) ?_
  show Go p e below s _ _ _ s₁ (mkF m 21 #[vr uu19, vi n518, vi n519, vr yd] [cv0])
  exact Go.retN X0 hx hlk (t := .boolean) Bd.returns (by simp) (hb hby d31_21) e0 ⟨rfl, N0, rfl⟩ (by decide) (by decide)

theorem ef_ArraysSupport_newLength_1 (m : MethodId) (x0 : Int32) (x1 : Int32) (x2 : Int32) : entryFrame m #[(.int x0), (.int x1), (.int x2)] 4 = mkF m 0 #[vi x0, vi x1, vi x2, .unset] [] := by first | (simp [entryFrame, mkF, argsToLocals, Value.category]; done) | rfl
def Q_ArraysSupport_newLength_1 (Z : State)  (h0 : Heap) (n0 : Nat) (v : Option Value) (h : Heap) (L : List Loc) : Prop := v = some cv4 ∧ Fr n0 L ∧ h = h0
set_option maxRecDepth 65536 in
set_option maxHeartbeats 40000000 in
theorem rm_ArraysSupport_newLength_1 (l : Launch) (Z : State) (a0 : Array Value) (hw : ∀ d ∈ tables_1, d.before a0 Z = true) (ws : List Jvm.Cond)  (h0 : Heap) (n0 : Nat) (Z0 : n0 ≤ h0.size) :
    MetFree l xm1 (head1 (Jvm.Cond.code xm1 jdk_48_method_27_code 4 (some .int) :: ws) xr13) (fun a U => a = #[cv3, cv1, cv1] ∧ Z.Warmed39 U.vm ∧ U.heap = h0) (fun _ _ _ _ _ => True) (fun _ U o U' => ∃ v L, o = .returned v ∧ Q_ArraysSupport_newLength_1 Z  h0 n0 v U'.heap L ∧ FrameEnd U o U' L xr13.cells xr13.slots) := by
  refine MetFree.of_bodySF (plainFor_of_name pn_14) hisR ?_
  intro p e s m args below meth c s₁ Bd hml0 hP hK
  obtain ⟨rfl, hZ, hh⟩ := hP
  have hx := Bd.exec
  have hby := Bd.bytes
  have hlk : meth.locks = false := BodyLoose.notSynchronized Bd
  have hml : c.maxLocals = 4 := hml0
  have hown : s.vm.findClass xs24 = some m.cls := findClass_of_methodNamed Bd.named
  have hnm := (name_of_methodNamed Bd.named Bd.method).1
  have X0 : Stand p l e xr13 s m #[cv3, cv1, cv1] below meth c s₁ [] 0 0 := Stand.of_body Bd
  have e0 : s₁.heap = h0 := by rw [← hh, Bd.state]; rfl
  have N0 := Fr.nil n0
  show Go p e below s (Q_ArraysSupport_newLength_1 Z  h0 n0) xr13.cells xr13.slots s₁ (entryFrame m #[cv3, cv1, cv1] 4)
  refine Go.cast (ef_ArraysSupport_newLength_1 m ci3 ci1 ci1) ?_
  show Go p e below s _ _ _ s₁ (mkF m 0 #[.val cv3, .val cv1, .val cv1, .unset] [])
  refine Go.step (fun _ k => XS.iloadN X0.here hx rfl (hb hby d27_0) rfl (XS.iloadN X0.here hx rfl (hb hby d27_1) rfl (XS.iloadN X0.here hx rfl (hb hby d27_2) rfl k))) ?_
  show Go p e below s _ _ _ s₁ (mkF m 3 #[.val cv3, .val cv1, .val cv1, .unset] [cv1, cv1, cv3])
  obtain ⟨_, _, ⟨T607, L607, k607, n607⟩, -, X607, ⟨Lc607, hQ607, l607, y607, z607⟩, st607⟩ := Jvm.LawKit.callS X0 hx (y := xm19) hown (mvT hZ (tw225 hw)) (mvT hZ (tw226 hw)) (mvT hZ (tw180 hw)) (mvT hZ (tw227 hw)) (by decide) (backOf (W := 1) (rm_Math_max_0 l Z a0 hw [] ci1 ci1 h0 n0 Z0 (by decide)) hZ (tw227 hw) (tw180 hw) (by decide) (by decide)) (g := (mkF m 3 #[.val cv3, .val cv1, .val cv1, .unset] [cv1, cv1, cv3])) rfl (by rw [hml]; rfl) (argsL := [cv1, cv1]) (rest := [cv3]) (lenOf pd_13 rfl) rfl (Nat.le_of_eq rfl) (hb hby d27_3) (fun _ _ => ⟨rfl, e0, (by decide : 0 + 0 ≤ _), (by decide : 0 + 0 ≤ _)⟩)
  dsimp only [Pt.U, Pt.locs, Pt.cells, Pt.slots] at X607 l607 y607 z607 st607 hQ607
  subst l607 y607 z607
  obtain ⟨rfl, N607q, eq607⟩ := hQ607
  have N608 := Fr.app N0 N607q
  refine Go.step (fun _ k => st607 _ (XS.iadd X607.here hx rfl (hb hby d27_6) rfl (XS.istoreN X607.here hx rfl (hb hby d27_7) rfl (l' := #[.val cv3, .val cv1, .val cv1, .val cv4]) rfl (XS.iconst X607.here hx rfl (hb hby d27_8) (XS.iloadN X607.here hx rfl (hb hby d27_9) rfl (XS.icmpNo X607.here hx rfl (hb hby d27_10) rfl (tlt (by decide)).2.1 (XS.iloadN X607.here hx rfl (hb hby d27_13) rfl (X607.ldcInt hx hown (mvT hZ (tw228 hw)) (g := (mkF m 14 #[.val cv3, .val cv1, .val cv1, .val cv4] [cv4])) rfl (hb hby d27_14) _ (XS.icmpNo X607.here hx rfl (hb hby d27_16) rfl (flt (by decide)).2.2.1 (XS.iloadN X607.here hx rfl (hb hby d27_19) rfl k)))))))))) ?_
  show Go p e below s _ _ _ T607 (mkF m 20 #[.val cv3, .val cv1, .val cv1, .val cv4] [cv4])
  exact Go.retI X607 hx hlk Bd.returns (hb hby d27_20) eq607 ⟨rfl, N608, rfl⟩ (by decide) (by decide)

theorem ef_Arrays_copyOf_4 (m : MethodId) (x0 : Addr) (x1 : Int32) (x2 : Addr) : entryFrame m #[(.ref x0), (.int x1), (.ref x2)] 4 = mkF m 0 #[vr x0, vi x1, vr x2, .unset] [] := by first | (simp [entryFrame, mkF, argsToLocals, Value.category]; done) | rfl
def Q_Arrays_copyOf_4 (Z : State) (uu22 : Addr) (moa : Addr) (uu23 : ClassId) (x536 : Addr) (x545 : Addr) (x571 : Addr) (h0 : Heap) (n0 : Nat) (v : Option Value) (h : Heap) (L : List Loc) : Prop := ∃ (b614 : Addr) (k614 : ClassId), v = some (.ref b614) ∧ Fr n0 L ∧ Keep h0 h [] ∧ h0.size ≤ b614 ∧ Exa Z h b614 xs34 ∧ Arv Z h b614 k614 (.object xs39) ci4 [(.ref x536), (.ref x545), (.ref x571), .null] .null ∧ Ovr Z k614 xs39
set_option maxRecDepth 65536 in
set_option maxHeartbeats 40000000 in
theorem rm_Arrays_copyOf_4 (l : Launch) (Z : State) (a0 : Array Value) (hw : ∀ d ∈ tables_1, d.before a0 Z = true) (ws : List Jvm.Cond) (uu22 : Addr) (moa : Addr) (uu23 : ClassId) (x536 : Addr) (x545 : Addr) (x571 : Addr) (h0 : Heap) (n0 : Nat) (Z0 : n0 ≤ h0.size) (M_moa : Mir Z xs34 moa) (V_b363_381_386_401_406_434_582 : Arv Z h0 uu22 uu23 (.object xs39) ci3 [(.ref x536), (.ref x545), (.ref x571)] .null) (E_x571 : Exa Z h0 x571 xs17) (E_x545 : Exa Z h0 x545 xs17) (E_x536 : Exa Z h0 x536 xs17) :
    MetFree l xm22 (head1 (Jvm.Cond.code xm22 jdk_65_method_120_code 4 (some (.array (.object xs39))) :: ws) xr22) (fun a U => a = #[(.ref uu22), cv4, (.ref moa)] ∧ Z.Warmed39 U.vm ∧ U.heap = h0) (fun _ _ _ _ _ => True) (fun _ U o U' => ∃ v L, o = .returned v ∧ Q_Arrays_copyOf_4 Z uu22 moa uu23 x536 x545 x571 h0 n0 v U'.heap L ∧ FrameEnd U o U' L xr22.cells xr22.slots) := by
  refine MetFree.of_bodySF (plainFor_of_name pn_12) hisR ?_
  intro p e s m args below meth c s₁ Bd hml0 hP hK
  obtain ⟨rfl, hZ, hh⟩ := hP
  have hx := Bd.exec
  have hby := Bd.bytes
  have hlk : meth.locks = false := BodyLoose.notSynchronized Bd
  have hml : c.maxLocals = 4 := hml0
  have hown : s.vm.findClass xs42 = some m.cls := findClass_of_methodNamed Bd.named
  have hnm := (name_of_methodNamed Bd.named Bd.method).1
  have X0 : Stand p l e xr22 s m #[(.ref uu22), cv4, (.ref moa)] below meth c s₁ [] 0 0 := Stand.of_body Bd
  have e0 : s₁.heap = h0 := by rw [← hh, Bd.state]; rfl
  have N0 := Fr.nil n0
  show Go p e below s (Q_Arrays_copyOf_4 Z uu22 moa uu23 x536 x545 x571 h0 n0) xr22.cells xr22.slots s₁ (entryFrame m #[(.ref uu22), cv4, (.ref moa)] 4)
  refine Go.cast (ef_Arrays_copyOf_4 m uu22 ci4 moa) ?_
  show Go p e below s _ _ _ s₁ (mkF m 0 #[vr uu22, .val cv4, vr moa, .unset] [])
  refine Go.step (fun _ k => XS.aloadN X0.here hx rfl (hb hby d21_0) rfl rfl k) ?_
  show Go p e below s _ _ _ s₁ (mkF m 1 #[vr uu22, .val cv4, vr moa, .unset] [(.ref moa)])
  obtain ⟨T613, X613, e613, st613⟩ := own_ldcM X0 hx hZ hown (tw176 hw) e0 M_moa (g := (mkF m 1 #[vr uu22, .val cv4, vr moa, .unset] [(.ref moa)])) rfl (hb hby d21_1)
  refine Go.step (fun _ k => st613 _ (Jvm.RoadKit.acmp (g := (mkF m 3 #[vr uu22, .val cv4, vr moa, .unset] [(.ref moa), (.ref moa)])) X613 hx rfl rfl rfl (pc0 := 3) (pc' := 6) (same := true) rfl (hb hby d21_3) rfl (decide_eq_true rfl) (by decide) (by decide) (XS.iloadN X613.here hx rfl (hb hby d21_6) rfl k))) ?_
  show Go p e below s _ _ _ T613 (mkF m 7 #[vr uu22, .val cv4, vr moa, .unset] [cv4])
  obtain ⟨T614, h614, k614, X614, e614, E614, A614, D614, O614, st614⟩ := newRE X613 hx hZ hown (tw177 hw) (tw156 hw) e613 (g := (mkF m 7 #[vr uu22, .val cv4, vr moa, .unset] [cv4])) rfl (hb hby d21_7) rfl (by decide) (cap := 4) (by decide) (by decide) (by decide) (by decide) (ad := xs34) (by decide)
  obtain ⟨b614, g614⟩ : ∃ z, z = h0.size := ⟨_, rfl⟩
  rw [← g614] at A614 D614 st614
  have f615 : Arv Z h614 b614 k614 (.object xs39) ci4 [.null, .null, .null, .null] .null := (Arv.new A614 (by decide)).pad (pad_rep [] .null 4)
  refine Go.step (fun _ k => st614 _ (XS.goto X614.here hx rfl (pc0 := 10) (pc' := 24) rfl (hb hby d21_10) (by decide) (by decide) (XS.astoreN X614.here hx rfl (hb hby d21_24) rfl rfl (l' := #[vr uu22, .val cv4, vr moa, vr b614]) rfl (XS.aloadN X614.here hx rfl (hb hby d21_25) rfl rfl (XS.iconst X614.here hx rfl (hb hby d21_26) (XS.aloadN X614.here hx rfl (hb hby d21_27) rfl rfl (XS.iconst X614.here hx rfl (hb hby d21_28) (XS.aloadN X614.here hx rfl (hb hby d21_29) rfl rfl k)))))))) ?_
  show Go p e below s _ _ _ T614 (mkF m 30 #[vr uu22, .val cv4, vr moa, vr b614] [(.ref uu22), cv0, (.ref b614), cv0, (.ref uu22)])
  have f616 := (V_b363_381_386_401_406_434_582.ext E614)
  obtain ⟨cl617, Ar617, -, Sz617, Ng617, -, -⟩ := id f616
  have aln617 := X614.arraylength hx (by rw [e614]; exact Ar617.1) (State.isArrayOf_alike hZ.alike Ar617.2.1) (g := (mkF m 30 #[vr uu22, .val cv4, vr moa, vr b614] [(.ref uu22), cv0, (.ref b614), cv0, (.ref uu22)])) rfl rfl (hb hby d21_30)
  rw [len_of Sz617 Ng617] at aln617
  refine Go.step (fun _ k => aln617 _ (XS.iloadN X614.here hx rfl (hb hby d21_31) rfl k)) ?_
  show Go p e below s _ _ _ T614 (mkF m 32 #[vr uu22, .val cv4, vr moa, vr b614] [cv4, cv3, cv0, (.ref b614), cv0, (.ref uu22)])
  have f618 := (Nat.le_trans Z0 E614.1)
  obtain ⟨_, _, ⟨T619, L619, k619, n619⟩, -, X619, ⟨Lc619, hQ619, l619, y619, z619⟩, st619⟩ := Jvm.LawKit.callS X614 hx (y := xm17) hown (mvT hZ (tw178 hw)) (mvT hZ (tw179 hw)) (mvT hZ (tw180 hw)) (mvT hZ (tw181 hw)) (by decide) (backOf (W := 4) (rm_Math_min_0 l Z a0 hw [] ci3 ci4 h614 n0 f618 (by decide)) hZ (tw181 hw) (tw180 hw) (by decide) (by decide)) (g := (mkF m 32 #[vr uu22, .val cv4, vr moa, vr b614] [cv4, cv3, cv0, (.ref b614), cv0, (.ref uu22)])) rfl (by rw [hml]; rfl) (argsL := [cv3, cv4]) (rest := [cv0, (.ref b614), cv0, (.ref uu22)]) (lenOf pd_13 rfl) rfl (Nat.le_of_eq rfl) (hb hby d21_32) (fun _ _ => ⟨rfl, e614, (by decide : 1 + 0 ≤ _), (by decide : 4 + 0 ≤ _)⟩)
  dsimp only [Pt.U, Pt.locs, Pt.cells, Pt.slots] at X619 l619 y619 z619 st619 hQ619
  subst l619 y619 z619
  obtain ⟨rfl, N619q, eq619⟩ := hQ619
  have N620 := Fr.app N0 N619q
  refine Go.step (fun _ k => st619 _ k) ?_
  show Go p e below s _ _ _ T619 (mkF m 35 #[vr uu22, .val cv4, vr moa, vr b614] [cv3, cv0, (.ref b614), cv0, (.ref uu22)])
  have g622 := Nat.le_trans Z0 (Nat.le_of_eq g614.symm)
  obtain ⟨cl623, Ar623, qq623, -⟩ := id f615
  have f624 := (E_x571.ext E614)
  obtain ⟨cl625, Ar625, qq625, -⟩ := id f615
  have f626 := (E_x545.ext E614)
  obtain ⟨cl627, Ar627, qq627, -⟩ := id f615
  have f628 := (E_x536.ext E614)
  obtain ⟨T621, h621, L621, X621, e621, N621, K621, V621, st621⟩ := cpA X619 hx hZ hown (tw182 hw) (tw185 hw) (tw183 hw) (tw184 hw) eq619 f616 f615 (us := [(.ref x536), (.ref x545), (.ref x571)]) (Or.inr ⟨rfl, rfl, (And.intro (Sto.ofV Ar627 qq627 O614 (Ins.of_exa f628 (tw157 hw))) (And.intro (Sto.ofV Ar625 qq625 O614 (Ins.of_exa f626 (tw157 hw))) (And.intro (Sto.ofV Ar623 qq623 O614 (Ins.of_exa f624 (tw157 hw))) trivial)))⟩) (by decide) (by decide) (by decide) (by decide) (by decide) rfl (Nat.le_of_ble_eq_true rfl) N620 g622 (g := (mkF m 35 #[vr uu22, .val cv4, vr moa, vr b614] [cv3, cv0, (.ref b614), cv0, (.ref uu22)])) rfl (by rw [hml]; rfl) rfl (hb hby d21_35) (by decide) (W := 0) (Nat.le_of_eq rfl) (by decide)
  have f629 : Arv Z h621 b614 k614 (.object xs39) ci4 [(.ref x536), (.ref x545), (.ref x571), .null] .null := V621
  refine Go.step (fun _ k => st621 _ (XS.aloadN X621.here hx rfl (hb hby d21_38) rfl rfl k)) ?_
  show Go p e below s _ _ _ T621 (mkF m 39 #[vr uu22, .val cv4, vr moa, vr b614] [(.ref b614)])
  have z630 := Nat.le_trans (Nat.le_refl _) (Nat.le_of_eq g614.symm)
  have f631 := (((Keep.refl h0 []).ext E614).trans K621 (allS (Or.inr z630) all0))
  have f632 := (D614.keep K621)
  have f633 := (Nat.le_trans (Nat.le_trans (Nat.le_refl _) E614.1) K621.1)
  exact Go.retA X621 hx hlk Bd.returns rfl rfl (hb hby d21_39) e621 ⟨b614, k614, rfl, N621, f631, z630, f632, f629, O614⟩ (by decide) (by decide)

theorem ef_Arrays_copyOf_3 (m : MethodId) (x0 : Addr) (x1 : Int32) : entryFrame m #[(.ref x0), (.int x1)] 2 = mkF m 0 #[vr x0, vi x1] [] := by first | (simp [entryFrame, mkF, argsToLocals, Value.category]; done) | rfl
def Q_Arrays_copyOf_3 (Z : State) (uu22 : Addr) (moa : Addr) (uu23 : ClassId) (x536 : Addr) (x545 : Addr) (x571 : Addr) (h0 : Heap) (n0 : Nat) (v : Option Value) (h : Heap) (L : List Loc) : Prop := ∃ (uu24 : Addr) (uu25 : ClassId), v = some (.ref uu24) ∧ Fr n0 L ∧ Keep h0 h [] ∧ h0.size ≤ uu24 ∧ Exa Z h uu24 xs34 ∧ Arv Z h uu24 uu25 (.object xs39) ci4 [(.ref x536), (.ref x545), (.ref x571), .null] .null ∧ Ovr Z uu25 xs39
set_option maxRecDepth 65536 in
set_option maxHeartbeats 40000000 in
theorem rm_Arrays_copyOf_3 (l : Launch) (Z : State) (a0 : Array Value) (hw : ∀ d ∈ tables_1, d.before a0 Z = true) (ws : List Jvm.Cond) (uu22 : Addr) (moa : Addr) (uu23 : ClassId) (x536 : Addr) (x545 : Addr) (x571 : Addr) (h0 : Heap) (n0 : Nat) (Z0 : n0 ≤ h0.size) (E_b363_381_386_401_406_434_582 : Exa Z h0 uu22 xs34) (M_moa : Mir Z xs34 moa) (V_b363_381_386_401_406_434_582 : Arv Z h0 uu22 uu23 (.object xs39) ci3 [(.ref x536), (.ref x545), (.ref x571)] .null) (E_x571 : Exa Z h0 x571 xs17) (E_x545 : Exa Z h0 x545 xs17) (E_x536 : Exa Z h0 x536 xs17) :
    MetFree l xm20 (head1 (Jvm.Cond.code xm20 jdk_65_method_119_code 2 (some (.array (.object xs39))) :: ws) xr23) (fun a U => a = #[(.ref uu22), cv4] ∧ Z.Warmed39 U.vm ∧ U.heap = h0) (fun _ _ _ _ _ => True) (fun _ U o U' => ∃ v L, o = .returned v ∧ Q_Arrays_copyOf_3 Z uu22 moa uu23 x536 x545 x571 h0 n0 v U'.heap L ∧ FrameEnd U o U' L xr23.cells xr23.slots) := by
  refine MetFree.of_bodySF (plainFor_of_name pn_12) hisR ?_
  intro p e s m args below meth c s₁ Bd hml0 hP hK
  obtain ⟨rfl, hZ, hh⟩ := hP
  have hx := Bd.exec
  have hby := Bd.bytes
  have hlk : meth.locks = false := BodyLoose.notSynchronized Bd
  have hml : c.maxLocals = 2 := hml0
  have hown : s.vm.findClass xs42 = some m.cls := findClass_of_methodNamed Bd.named
  have hnm := (name_of_methodNamed Bd.named Bd.method).1
  have X0 : Stand p l e xr23 s m #[(.ref uu22), cv4] below meth c s₁ [] 0 0 := Stand.of_body Bd
  have e0 : s₁.heap = h0 := by rw [← hh, Bd.state]; rfl
  have N0 := Fr.nil n0
  show Go p e below s (Q_Arrays_copyOf_3 Z uu22 moa uu23 x536 x545 x571 h0 n0) xr23.cells xr23.slots s₁ (entryFrame m #[(.ref uu22), cv4] 2)
  refine Go.cast (ef_Arrays_copyOf_3 m uu22 ci4) ?_
  show Go p e below s _ _ _ s₁ (mkF m 0 #[vr uu22, .val cv4] [])
  refine Go.step (fun _ k => XS.aloadN X0.here hx rfl (hb hby d29_0) rfl rfl (XS.iloadN X0.here hx rfl (hb hby d29_1) rfl (XS.aloadN X0.here hx rfl (hb hby d29_2) rfl rfl k))) ?_
  show Go p e below s _ _ _ s₁ (mkF m 3 #[vr uu22, .val cv4] [(.ref uu22), cv4, (.ref uu22)])
  obtain ⟨T612, X612, e612, st612⟩ := own_gcV X0 hx hZ hown (tw232 hw) (tw161 hw) (tw233 hw) (tw164 hw) (tw167 hw) e0 E_b363_381_386_401_406_434_582 M_moa (g := (mkF m 3 #[vr uu22, .val cv4] [(.ref uu22), cv4, (.ref uu22)])) rfl (by rw [hml]; rfl) rfl (hb hby d29_3) (by decide) (W := 2) (Nat.le_of_eq rfl) (by decide)
  refine Go.step (fun _ k => st612 _ k) ?_
  show Go p e below s _ _ _ T612 (mkF m 6 #[vr uu22, .val cv4] [(.ref moa), cv4, (.ref uu22)])
  obtain ⟨_, _, ⟨T634, L634, k634, n634⟩, -, X634, ⟨Lc634, hQ634, l634, y634, z634⟩, st634⟩ := Jvm.LawKit.callS X612 hx (y := xm22) hown (mvT hZ (tw234 hw)) (mvT hZ (tw173 hw)) (mvT hZ (tw174 hw)) (mvT hZ (tw175 hw)) (by decide) (backOf (W := 0) (rm_Arrays_copyOf_4 l Z a0 hw [] uu22 moa uu23 x536 x545 x571 h0 n0 Z0 M_moa V_b363_381_386_401_406_434_582 E_x571 E_x545 E_x536) hZ (tw175 hw) (tw174 hw) (by decide) (by decide)) (g := (mkF m 6 #[vr uu22, .val cv4] [(.ref moa), cv4, (.ref uu22)])) rfl (by rw [hml]; rfl) (argsL := [(.ref uu22), cv4, (.ref moa)]) (rest := []) (lenOf pd_14 rfl) rfl (Nat.le_of_eq rfl) (hb hby d29_6) (fun _ _ => ⟨rfl, e612, (by decide : 0 + 1 ≤ _), (by decide : 0 + 4 ≤ _)⟩)
  dsimp only [Pt.U, Pt.locs, Pt.cells, Pt.slots] at X634 l634 y634 z634 st634 hQ634
  subst l634 y634 z634
  obtain ⟨uu24, uu25, rfl, N634q, K634, P634_0, P634_1, P634_2, P634_3⟩ := hQ634
  have N635 := Fr.app N0 N634q
  refine Go.step (fun _ k => st634 _ k) ?_
  show Go p e below s _ _ _ T634 (mkF m 9 #[vr uu22, .val cv4] [(.ref uu24)])
  have f636 := ((Keep.refl h0 []).trans K634 all0)
  have z637 := Nat.le_trans (Nat.le_refl _) P634_0
  have f638 := (Nat.le_trans (Nat.le_refl _) K634.1)
  exact Go.retA X634 hx hlk Bd.returns rfl rfl (hb hby d29_9) rfl ⟨uu24, uu25, rfl, N635, f636, z637, P634_1, P634_2, P634_3⟩ (by decide) (by decide)

theorem ef_ArrayList_grow_3 (m : MethodId) (x0 : Addr) (x1 : Int32) : entryFrame m #[(.ref x0), (.int x1)] 4 = mkF m 0 #[vr x0, vi x1, .unset, .unset] [] := by first | (simp [entryFrame, mkF, argsToLocals, Value.category]; done) | rfl
def Q_ArrayList_grow_3 (Z : State) (b530 : Addr) (uu22 : Addr) (uu23 : ClassId) (x536 : Addr) (x545 : Addr) (x571 : Addr) (moa : Addr) (h0 : Heap) (n0 : Nat) (v : Option Value) (h : Heap) (L : List Loc) : Prop := ∃ (uu26 : Addr) (uu27 : ClassId), v = some (.ref uu26) ∧ Fr n0 L ∧ Keep h0 h [b530] ∧ Fld Z h b530 xs35 "elementData" xs34 (.ref uu26) ∧ Fld Z h b530 xs29 "modCount" "I" cv2 ∧ Fld Z h b530 xs35 "size" "I" cv3 ∧ h0.size ≤ uu26 ∧ Exa Z h uu26 xs34 ∧ Arv Z h uu26 uu27 (.object xs39) ci4 [(.ref x536), (.ref x545), (.ref x571), .null] .null ∧ Ovr Z uu27 xs39
set_option maxRecDepth 65536 in
set_option maxHeartbeats 40000000 in
theorem rm_ArrayList_grow_3 (l : Launch) (Z : State) (a0 : Array Value) (hw : ∀ d ∈ tables_1, d.before a0 Z = true) (ws : List Jvm.Cond) (b530 : Addr) (uu22 : Addr) (uu23 : ClassId) (x536 : Addr) (x545 : Addr) (x571 : Addr) (moa : Addr) (h0 : Heap) (n0 : Nat) (Z0 : n0 ≤ h0.size) (F_elementData_b530 : Fld Z h0 b530 xs35 "elementData" xs34 (.ref uu22)) (V_b363_381_386_401_406_434_582 : Arv Z h0 uu22 uu23 (.object xs39) ci3 [(.ref x536), (.ref x545), (.ref x571)] .null) (E_b363_381_386_401_406_434_582 : Exa Z h0 uu22 xs34) (M_moa : Mir Z xs34 moa) (E_x571 : Exa Z h0 x571 xs17) (E_x545 : Exa Z h0 x545 xs17) (E_x536 : Exa Z h0 x536 xs17) (E_b530 : Exa Z h0 b530 xs35) (g_b530 : n0 ≤ b530) (F_modCount_b530 : Fld Z h0 b530 xs29 "modCount" "I" cv2) (F_size_b530 : Fld Z h0 b530 xs35 "size" "I" cv3) :
    MetFree l xm26 (head1 (Jvm.Cond.code xm26 jdk_38_method_6_code 4 (some (.array (.object xs39))) :: ws) xr24) (fun a U => a = #[(.ref b530), cv4] ∧ Z.Warmed39 U.vm ∧ U.heap = h0) (fun _ _ _ _ _ => True) (fun _ U o U' => ∃ v L, o = .returned v ∧ Q_ArrayList_grow_3 Z b530 uu22 uu23 x536 x545 x571 moa h0 n0 v U'.heap L ∧ FrameEnd U o U' L xr24.cells xr24.slots) := by
  refine MetFree.of_bodySF (plainFor_of_name pn_13) hisR ?_
  intro p e s m args below meth c s₁ Bd hml0 hP hK
  obtain ⟨rfl, hZ, hh⟩ := hP
  have hx := Bd.exec
  have hby := Bd.bytes
  have hlk : meth.locks = false := BodyLoose.notSynchronized Bd
  have hml : c.maxLocals = 4 := hml0
  have hown : s.vm.findClass xs35 = some m.cls := findClass_of_methodNamed Bd.named
  have hnm := (name_of_methodNamed Bd.named Bd.method).1
  have X0 : Stand p l e xr24 s m #[(.ref b530), cv4] below meth c s₁ [] 0 0 := Stand.of_body Bd
  have e0 : s₁.heap = h0 := by rw [← hh, Bd.state]; rfl
  have N0 := Fr.nil n0
  show Go p e below s (Q_ArrayList_grow_3 Z b530 uu22 uu23 x536 x545 x571 moa h0 n0) xr24.cells xr24.slots s₁ (entryFrame m #[(.ref b530), cv4] 4)
  refine Go.cast (ef_ArrayList_grow_3 m b530 ci4) ?_
  show Go p e below s _ _ _ s₁ (mkF m 0 #[vr b530, .val cv4, .unset, .unset] [])
  refine Go.step (fun _ k => XS.aloadN X0.here hx rfl (hb hby d26_0) rfl rfl k) ?_
  show Go p e below s _ _ _ s₁ (mkF m 1 #[vr b530, .val cv4, .unset, .unset] [(.ref b530)])
  obtain ⟨T605, X605, e605, st605⟩ := getF X0 hx hZ hown (host := "") (Or.inl (tw186 hw)) Via.refl e0 F_elementData_b530 (g := (mkF m 1 #[vr b530, .val cv4, .unset, .unset] [(.ref b530)])) rfl rfl (hb hby d26_1)
  refine Go.step (fun _ k => st605 _ k) ?_
  show Go p e below s _ _ _ T605 (mkF m 4 #[vr b530, .val cv4, .unset, .unset] [(.ref uu22)])
  obtain ⟨cl606, Ar606, -, Sz606, Ng606, -, -⟩ := id V_b363_381_386_401_406_434_582
  have aln606 := X605.arraylength hx (by rw [e605]; exact Ar606.1) (State.isArrayOf_alike hZ.alike Ar606.2.1) (g := (mkF m 4 #[vr b530, .val cv4, .unset, .unset] [(.ref uu22)])) rfl rfl (hb hby d26_4)
  rw [len_of Sz606 Ng606] at aln606
  refine Go.step (fun _ k => aln606 _ (XS.istoreN X605.here hx rfl (hb hby d26_5) rfl (l' := #[vr b530, .val cv4, .val cv3, .unset]) rfl (XS.iloadN X605.here hx rfl (hb hby d26_6) rfl (XS.ifYes X605.here hx rfl (pc0 := 7) (pc' := 20) rfl (hb hby d26_7) rfl ((if0 _ _).trans (tlt (by decide)).2.2.1) (by decide) (by decide) (XS.iloadN X605.here hx rfl (hb hby d26_20) rfl (XS.iloadN X605.here hx rfl (hb hby d26_21) rfl (XS.iloadN X605.here hx rfl (hb hby d26_22) rfl (XS.isub X605.here hx rfl (hb hby d26_23) rfl (XS.iloadN X605.here hx rfl (hb hby d26_24) rfl (XS.iconst X605.here hx rfl (hb hby d26_25) k)))))))))) ?_
  show Go p e below s _ _ _ T605 (mkF m 26 #[vr b530, .val cv4, .val cv3, .unset] [cv1, cv3, cv1, cv3])
  refine Go.step (fun _ k => XS.ishr X605.here hx rfl (hb hby d26_26) rfl k) ?_
  show Go p e below s _ _ _ T605 (mkF m 27 #[vr b530, .val cv4, .val cv3, .unset] [cv1, cv1, cv3])
  obtain ⟨_, _, ⟨T609, L609, k609, n609⟩, -, X609, ⟨Lc609, hQ609, l609, y609, z609⟩, st609⟩ := Jvm.LawKit.callS X605 hx (y := xm1) hown (mvT hZ (tw221 hw)) (mvT hZ (tw222 hw)) (mvT hZ (tw223 hw)) (mvT hZ (tw224 hw)) (by decide) (backOf (W := 0) (rm_ArraysSupport_newLength_1 l Z a0 hw []  h0 n0 Z0) hZ (tw224 hw) (tw223 hw) (by decide) (by decide)) (g := (mkF m 27 #[vr b530, .val cv4, .val cv3, .unset] [cv1, cv1, cv3])) rfl (by rw [hml]; rfl) (argsL := [cv3, cv1, cv1]) (rest := []) (lenOf pd_17 rfl) rfl (Nat.le_of_eq rfl) (hb hby d26_27) (fun _ _ => ⟨rfl, e605, (by decide : 0 + 0 ≤ _), (by decide : 0 + 0 ≤ _)⟩)
  dsimp only [Pt.U, Pt.locs, Pt.cells, Pt.slots] at X609 l609 y609 z609 st609 hQ609
  subst l609 y609 z609
  obtain ⟨rfl, N609q, eq609⟩ := hQ609
  have N610 := Fr.app N0 N609q
  refine Go.step (fun _ k => st609 _ (XS.istoreN X609.here hx rfl (hb hby d26_30) rfl (l' := #[vr b530, .val cv4, .val cv3, .val cv4]) rfl (XS.aloadN X609.here hx rfl (hb hby d26_31) rfl rfl (XS.aloadN X609.here hx rfl (hb hby d26_32) rfl rfl k)))) ?_
  show Go p e below s _ _ _ T609 (mkF m 33 #[vr b530, .val cv4, .val cv3, .val cv4] [(.ref b530), (.ref b530)])
  obtain ⟨T611, X611, e611, st611⟩ := getF X609 hx hZ hown (host := "") (Or.inl (tw186 hw)) Via.refl eq609 F_elementData_b530 (g := (mkF m 33 #[vr b530, .val cv4, .val cv3, .val cv4] [(.ref b530), (.ref b530)])) rfl rfl (hb hby d26_33)
  refine Go.step (fun _ k => st611 _ (XS.iloadN X611.here hx rfl (hb hby d26_36) rfl k)) ?_
  show Go p e below s _ _ _ T611 (mkF m 37 #[vr b530, .val cv4, .val cv3, .val cv4] [cv4, (.ref uu22), (.ref b530)])
  obtain ⟨_, _, ⟨T639, L639, k639, n639⟩, -, X639, ⟨Lc639, hQ639, l639, y639, z639⟩, st639⟩ := Jvm.LawKit.callS X611 hx (y := xm20) hown (mvT hZ (tw229 hw)) (mvT hZ (tw230 hw)) (mvT hZ (tw174 hw)) (mvT hZ (tw231 hw)) (by decide) (backOf (W := 1) (rm_Arrays_copyOf_3 l Z a0 hw [] uu22 moa uu23 x536 x545 x571 h0 n0 Z0 E_b363_381_386_401_406_434_582 M_moa V_b363_381_386_401_406_434_582 E_x571 E_x545 E_x536) hZ (tw231 hw) (tw174 hw) (by decide) (by decide)) (g := (mkF m 37 #[vr b530, .val cv4, .val cv3, .val cv4] [cv4, (.ref uu22), (.ref b530)])) rfl (by rw [hml]; rfl) (argsL := [(.ref uu22), cv4]) (rest := [(.ref b530)]) (lenOf pd_18 rfl) rfl (Nat.le_of_eq rfl) (hb hby d26_37) (fun _ _ => ⟨rfl, e611, (by decide : 0 + 1 ≤ _), (by decide : 0 + 4 ≤ _)⟩)
  dsimp only [Pt.U, Pt.locs, Pt.cells, Pt.slots] at X639 l639 y639 z639 st639 hQ639
  subst l639 y639 z639
  obtain ⟨uu26, uu27, rfl, N639q, K639, P639_0, P639_1, P639_2, P639_3⟩ := hQ639
  have N640 := Fr.app N610 N639q
  refine Go.step (fun _ k => st639 _ (XS.dupX1 X639.here hx rfl (hb hby d26_40) rfl rfl rfl k)) ?_
  show Go p e below s _ _ _ T639 (mkF m 41 #[vr b530, .val cv4, .val cv3, .val cv4] [(.ref uu26), (.ref b530), (.ref uu26)])
  have f641 := (F_elementData_b530.keep K639 nin0)
  have f642 := (E_b530.keep K639)
  obtain ⟨T643, h643, X643, e643, W643, st643⟩ := putF X639 hx hZ hown (host := "") (Or.inl (tw186 hw)) Via.refl rfl f641 f642 (Or.inl (tw187 hw)) (tw50 hw) (ty := (.array (.object xs39))) (by decide) rfl rfl (g := (mkF m 41 #[vr b530, .val cv4, .val cv3, .val cv4] [(.ref uu26), (.ref b530), (.ref uu26)])) rfl rfl (hb hby d26_41)
  have f644 := f641.same W643
  have N645 := Fr.snoc X643 N640 g_b530
  refine Go.step (fun _ k => st643 _ k) ?_
  show Go p e below s _ _ _ T643 (mkF m 44 #[vr b530, .val cv4, .val cv3, .val cv4] [(.ref uu26)])
  have f646 := (((Keep.refl h0 [b530]).trans K639 all0).wr W643 (Or.inl (List.mem_of_getElem? (i := 0) rfl)))
  have f647 := ((F_modCount_b530.keep K639 nin0).other W643 (Or.inr (slot_ne (Or.inl (tw143 hw)) (Or.inl (tw187 hw)) (by decide) (t := .int) (t' := (.array (.object xs39))) (by decide) (by decide))))
  have f648 := ((F_size_b530.keep K639 nin0).other W643 (Or.inr (slot_ne (Or.inl (tw159 hw)) (Or.inl (tw187 hw)) (by decide) (t := .int) (t' := (.array (.object xs39))) (by decide) (by decide))))
  have z649 := Nat.le_trans (Nat.le_refl _) P639_0
  have f650 := (P639_1.wr W643)
  have ne651 : b530 ≠ uu26 := Nat.ne_of_lt (Nat.lt_of_lt_of_le E_b530.lt P639_0)
  have f652 := (P639_2.other W643 (Ne.symm ne651))
  have f653 := (Nat.le_trans (Nat.le_trans (Nat.le_refl _) K639.1) (Keep.of_wr W643).1)
  exact Go.retA X643 hx hlk Bd.returns rfl rfl (hb hby d26_44) e643 ⟨uu26, uu27, rfl, N645, f646, f644, f647, f648, z649, f650, f652, P639_3⟩ (by decide) (by decide)

theorem ef_ArrayList_grow_2 (m : MethodId) (x0 : Addr) : entryFrame m #[(.ref x0)] 1 = mkF m 0 #[vr x0] [] := by first | (simp [entryFrame, mkF, argsToLocals, Value.category]; done) | rfl
def Q_ArrayList_grow_2 (Z : State) (b530 : Addr) (uu22 : Addr) (uu23 : ClassId) (x536 : Addr) (x545 : Addr) (x571 : Addr) (moa : Addr) (h0 : Heap) (n0 : Nat) (v : Option Value) (h : Heap) (L : List Loc) : Prop := ∃ (uu28 : Addr) (uu29 : ClassId), v = some (.ref uu28) ∧ Fr n0 L ∧ Keep h0 h [b530] ∧ Fld Z h b530 xs35 "size" "I" cv3 ∧ Fld Z h b530 xs35 "elementData" xs34 (.ref uu28) ∧ Fld Z h b530 xs29 "modCount" "I" cv2 ∧ h0.size ≤ uu28 ∧ Exa Z h uu28 xs34 ∧ Arv Z h uu28 uu29 (.object xs39) ci4 [(.ref x536), (.ref x545), (.ref x571), .null] .null ∧ Ovr Z uu29 xs39
set_option maxRecDepth 65536 in
set_option maxHeartbeats 40000000 in
theorem rm_ArrayList_grow_2 (l : Launch) (Z : State) (a0 : Array Value) (hw : ∀ d ∈ tables_1, d.before a0 Z = true) (ws : List Jvm.Cond) (b530 : Addr) (uu22 : Addr) (uu23 : ClassId) (x536 : Addr) (x545 : Addr) (x571 : Addr) (moa : Addr) (h0 : Heap) (n0 : Nat) (Z0 : n0 ≤ h0.size) (F_size_b530 : Fld Z h0 b530 xs35 "size" "I" cv3) (F_elementData_b530 : Fld Z h0 b530 xs35 "elementData" xs34 (.ref uu22)) (V_b363_381_386_401_406_434_582 : Arv Z h0 uu22 uu23 (.object xs39) ci3 [(.ref x536), (.ref x545), (.ref x571)] .null) (E_b363_381_386_401_406_434_582 : Exa Z h0 uu22 xs34) (M_moa : Mir Z xs34 moa) (E_x571 : Exa Z h0 x571 xs17) (E_x545 : Exa Z h0 x545 xs17) (E_x536 : Exa Z h0 x536 xs17) (E_b530 : Exa Z h0 b530 xs35) (g_b530 : n0 ≤ b530) (F_modCount_b530 : Fld Z h0 b530 xs29 "modCount" "I" cv2) :
    MetFree l xm27 (head1 (Jvm.Cond.code xm27 jdk_38_method_7_code 1 (some (.array (.object xs39))) :: ws) xr25) (fun a U => a = #[(.ref b530)] ∧ Z.Warmed39 U.vm ∧ U.heap = h0) (fun _ _ _ _ _ => True) (fun _ U o U' => ∃ v L, o = .returned v ∧ Q_ArrayList_grow_2 Z b530 uu22 uu23 x536 x545 x571 moa h0 n0 v U'.heap L ∧ FrameEnd U o U' L xr25.cells xr25.slots) := by
  refine MetFree.of_bodySF (plainFor_of_name pn_13) hisR ?_
  intro p e s m args below meth c s₁ Bd hml0 hP hK
  obtain ⟨rfl, hZ, hh⟩ := hP
  have hx := Bd.exec
  have hby := Bd.bytes
  have hlk : meth.locks = false := BodyLoose.notSynchronized Bd
  have hml : c.maxLocals = 1 := hml0
  have hown : s.vm.findClass xs35 = some m.cls := findClass_of_methodNamed Bd.named
  have hnm := (name_of_methodNamed Bd.named Bd.method).1
  have X0 : Stand p l e xr25 s m #[(.ref b530)] below meth c s₁ [] 0 0 := Stand.of_body Bd
  have e0 : s₁.heap = h0 := by rw [← hh, Bd.state]; rfl
  have N0 := Fr.nil n0
  show Go p e below s (Q_ArrayList_grow_2 Z b530 uu22 uu23 x536 x545 x571 moa h0 n0) xr25.cells xr25.slots s₁ (entryFrame m #[(.ref b530)] 1)
  refine Go.cast (ef_ArrayList_grow_2 m b530) ?_
  show Go p e below s _ _ _ s₁ (mkF m 0 #[vr b530] [])
  refine Go.step (fun _ k => XS.aloadN X0.here hx rfl (hb hby d25_0) rfl rfl (XS.aloadN X0.here hx rfl (hb hby d25_1) rfl rfl k)) ?_
  show Go p e below s _ _ _ s₁ (mkF m 2 #[vr b530] [(.ref b530), (.ref b530)])
  obtain ⟨T604, X604, e604, st604⟩ := getF X0 hx hZ hown (host := "") (Or.inl (tw158 hw)) Via.refl e0 F_size_b530 (g := (mkF m 2 #[vr b530] [(.ref b530), (.ref b530)])) rfl rfl (hb hby d25_2)
  refine Go.step (fun _ k => st604 _ (XS.iconst X604.here hx rfl (hb hby d25_5) (XS.iadd X604.here hx rfl (hb hby d25_6) rfl k))) ?_
  show Go p e below s _ _ _ T604 (mkF m 7 #[vr b530] [cv4, (.ref b530)])
  obtain ⟨cq654, q654, q654'⟩ := E_b530.cell
  obtain ⟨_, _, ⟨T654, L654, k654, n654⟩, -, X654, ⟨Lc654, hQ654, l654, y654, z654⟩, st654⟩ := X604.privateBack hx (y := xm26) hown (mvT hZ (tw216 hw)) (mvT hZ (tw217 hw)) (mvT hZ (tw219 hw)) (Cond.privateMethod_at (mvP hZ (tw218 hw) (args := #[]))) (mvT hZ (tw220 hw)) (by decide) (backOf (W := 0) (rm_ArrayList_grow_3 l Z a0 hw [] b530 uu22 uu23 x536 x545 x571 moa h0 n0 Z0 F_elementData_b530 V_b363_381_386_401_406_434_582 E_b363_381_386_401_406_434_582 M_moa E_x571 E_x545 E_x536 E_b530 g_b530 F_modCount_b530 F_size_b530) hZ (tw220 hw) (tw51 hw) (by decide) (by decide)) (g := (mkF m 7 #[vr b530] [cv4, (.ref b530)])) rfl (by rw [hml]; rfl) (Steps.refl _) (a := b530) (by rw [e604]; exact q654) q654' (argsL := [cv4]) (rest := []) (lenOf pd_19 rfl) rfl (Nat.le_of_eq rfl) (hb hby d25_7) (fun _ _ => ⟨rfl, e604, (by decide : 0 + 1 ≤ _), (by decide : 0 + 4 ≤ _)⟩)
  dsimp only [Pt.U, Pt.locs, Pt.cells, Pt.slots] at X654 l654 y654 z654 st654 hQ654
  subst l654 y654 z654
  obtain ⟨uu28, uu29, rfl, N654q, K654, P654_0, P654_1, P654_2, P654_3, P654_4, P654_5, P654_6⟩ := hQ654
  have N655 := Fr.app N0 N654q
  refine Go.step (fun _ k => st654.trans k) ?_
  show Go p e below s _ _ _ T654 (mkF m 10 #[vr b530] [(.ref uu28)])
  have f656 := ((Keep.refl h0 [b530]).trans K654 (allS (Or.inl (List.mem_of_getElem? (i := 0) rfl)) all0))
  have z657 := Nat.le_trans (Nat.le_refl _) P654_3
  have f658 := (Nat.le_trans (Nat.le_refl _) K654.1)
  exact Go.retA X654 hx hlk Bd.returns rfl rfl (hb hby d25_10) rfl ⟨uu28, uu29, rfl, N655, f656, P654_2, P654_0, P654_1, z657, P654_4, P654_5, P654_6⟩ (by decide) (by decide)

theorem ef_ArrayList_add_3 (m : MethodId) (x0 : Addr) (x1 : Addr) (x2 : Addr) (x3 : Int32) : entryFrame m #[(.ref x0), (.ref x1), (.ref x2), (.int x3)] 4 = mkF m 0 #[vr x0, vr x1, vr x2, vi x3] [] := by first | (simp [entryFrame, mkF, argsToLocals, Value.category]; done) | rfl
def Q_ArrayList_add_3 (Z : State) (b530 : Addr) (x588 : Addr) (uu22 : Addr) (uu23 : ClassId) (x536 : Addr) (x545 : Addr) (x571 : Addr) (moa : Addr) (h0 : Heap) (n0 : Nat) (v : Option Value) (h : Heap) (L : List Loc) : Prop := ∃ (uu30 : Addr) (uu31 : ClassId), v = none ∧ Fr n0 L ∧ Keep h0 h [b530] ∧ Fld Z h b530 xs35 "size" "I" cv4 ∧ Fld Z h b530 xs35 "elementData" xs34 (.ref uu30) ∧ Fld Z h b530 xs29 "modCount" "I" cv2 ∧ h0.size ≤ uu30 ∧ Exa Z h uu30 xs34 ∧ Arv Z h uu30 uu31 (.object xs39) ci4 [(.ref x536), (.ref x545), (.ref x571), (.ref x588)] .null ∧ Ovr Z uu31 xs39
set_option maxRecDepth 65536 in
set_option maxHeartbeats 40000000 in
theorem rm_ArrayList_add_3 (l : Launch) (Z : State) (a0 : Array Value) (hw : ∀ d ∈ tables_1, d.before a0 Z = true) (ws : List Jvm.Cond) (b530 : Addr) (x588 : Addr) (uu22 : Addr) (uu23 : ClassId) (x536 : Addr) (x545 : Addr) (x571 : Addr) (moa : Addr) (h0 : Heap) (n0 : Nat) (Z0 : n0 ≤ h0.size) (V_b363_381_386_401_406_434_582 : Arv Z h0 uu22 uu23 (.object xs39) ci3 [(.ref x536), (.ref x545), (.ref x571)] .null) (F_size_b530 : Fld Z h0 b530 xs35 "size" "I" cv3) (F_elementData_b530 : Fld Z h0 b530 xs35 "elementData" xs34 (.ref uu22)) (E_b363_381_386_401_406_434_582 : Exa Z h0 uu22 xs34) (M_moa : Mir Z xs34 moa) (E_x571 : Exa Z h0 x571 xs17) (E_x545 : Exa Z h0 x545 xs17) (E_x536 : Exa Z h0 x536 xs17) (E_b530 : Exa Z h0 b530 xs35) (g_b530 : n0 ≤ b530) (F_modCount_b530 : Fld Z h0 b530 xs29 "modCount" "I" cv2) (E_x588 : Exa Z h0 x588 xs17) :
    MetFree l xm31 (head1 (Jvm.Cond.code xm31 jdk_38_method_24_code 4 none :: ws) xr26) (fun a U => a = #[(.ref b530), (.ref x588), (.ref uu22), cv3] ∧ Z.Warmed39 U.vm ∧ U.heap = h0) (fun _ _ _ _ _ => True) (fun _ U o U' => ∃ v L, o = .returned v ∧ Q_ArrayList_add_3 Z b530 x588 uu22 uu23 x536 x545 x571 moa h0 n0 v U'.heap L ∧ FrameEnd U o U' L xr26.cells xr26.slots) := by
  refine MetFree.of_bodySF (plainFor_of_name pn_13) hisR ?_
  intro p e s m args below meth c s₁ Bd hml0 hP hK
  obtain ⟨rfl, hZ, hh⟩ := hP
  have hx := Bd.exec
  have hby := Bd.bytes
  have hlk : meth.locks = false := BodyLoose.notSynchronized Bd
  have hml : c.maxLocals = 4 := hml0
  have hown : s.vm.findClass xs35 = some m.cls := findClass_of_methodNamed Bd.named
  have hnm := (name_of_methodNamed Bd.named Bd.method).1
  have X0 : Stand p l e xr26 s m #[(.ref b530), (.ref x588), (.ref uu22), cv3] below meth c s₁ [] 0 0 := Stand.of_body Bd
  have e0 : s₁.heap = h0 := by rw [← hh, Bd.state]; rfl
  have N0 := Fr.nil n0
  show Go p e below s (Q_ArrayList_add_3 Z b530 x588 uu22 uu23 x536 x545 x571 moa h0 n0) xr26.cells xr26.slots s₁ (entryFrame m #[(.ref b530), (.ref x588), (.ref uu22), cv3] 4)
  refine Go.cast (ef_ArrayList_add_3 m b530 x588 uu22 ci3) ?_
  show Go p e below s _ _ _ s₁ (mkF m 0 #[vr b530, vr x588, vr uu22, .val cv3] [])
  refine Go.step (fun _ k => XS.iloadN X0.here hx rfl (hb hby d24_0) rfl (XS.aloadN X0.here hx rfl (hb hby d24_1) rfl rfl k)) ?_
  show Go p e below s _ _ _ s₁ (mkF m 2 #[vr b530, vr x588, vr uu22, .val cv3] [(.ref uu22), cv3])
  obtain ⟨cl603, Ar603, -, Sz603, Ng603, -, -⟩ := id V_b363_381_386_401_406_434_582
  have aln603 := X0.arraylength hx (by rw [e0]; exact Ar603.1) (State.isArrayOf_alike hZ.alike Ar603.2.1) (g := (mkF m 2 #[vr b530, vr x588, vr uu22, .val cv3] [(.ref uu22), cv3])) rfl rfl (hb hby d24_2)
  rw [len_of Sz603 Ng603] at aln603
  refine Go.step (fun _ k => aln603 _ (XS.icmpNo X0.here hx rfl (hb hby d24_3) rfl (teq (by decide)).2 (XS.aloadN X0.here hx rfl (hb hby d24_6) rfl rfl k))) ?_
  show Go p e below s _ _ _ s₁ (mkF m 7 #[vr b530, vr x588, vr uu22, .val cv3] [(.ref b530)])
  obtain ⟨cq659, q659, q659'⟩ := E_b530.cell
  obtain ⟨_, _, ⟨T659, L659, k659, n659⟩, -, X659, ⟨Lc659, hQ659, l659, y659, z659⟩, st659⟩ := X0.privateBack hx (y := xm27) hown (mvT hZ (tw211 hw)) (mvT hZ (tw212 hw)) (mvT hZ (tw214 hw)) (Cond.privateMethod_at (mvP hZ (tw213 hw) (args := #[]))) (mvT hZ (tw215 hw)) (by decide) (backOf (W := 0) (rm_ArrayList_grow_2 l Z a0 hw [] b530 uu22 uu23 x536 x545 x571 moa h0 n0 Z0 F_size_b530 F_elementData_b530 V_b363_381_386_401_406_434_582 E_b363_381_386_401_406_434_582 M_moa E_x571 E_x545 E_x536 E_b530 g_b530 F_modCount_b530) hZ (tw215 hw) (tw51 hw) (by decide) (by decide)) (g := (mkF m 7 #[vr b530, vr x588, vr uu22, .val cv3] [(.ref b530)])) rfl (by rw [hml]; rfl) (Steps.refl _) (a := b530) (by rw [e0]; exact q659) q659' (argsL := []) (rest := []) (lenOf pd_12 rfl) rfl (Nat.le_of_eq rfl) (hb hby d24_7) (fun _ _ => ⟨rfl, e0, (by decide : 0 + 1 ≤ _), (by decide : 0 + 4 ≤ _)⟩)
  dsimp only [Pt.U, Pt.locs, Pt.cells, Pt.slots] at X659 l659 y659 z659 st659 hQ659
  subst l659 y659 z659
  obtain ⟨uu30, uu31, rfl, N659q, K659, P659_0, P659_1, P659_2, P659_3, P659_4, P659_5, P659_6⟩ := hQ659
  have N660 := Fr.app N0 N659q
  refine Go.step (fun _ k => st659.trans (XS.astoreN X659.here hx rfl (hb hby d24_10) rfl rfl (l' := #[vr b530, vr x588, vr uu30, .val cv3]) rfl (XS.aloadN X659.here hx rfl (hb hby d24_11) rfl rfl (XS.iloadN X659.here hx rfl (hb hby d24_12) rfl (XS.aloadN X659.here hx rfl (hb hby d24_13) rfl rfl k))))) ?_
  show Go p e below s _ _ _ T659 (mkF m 14 #[vr b530, vr x588, vr uu30, .val cv3] [(.ref x588), cv3, (.ref uu30)])
  obtain ⟨cl661, Ar661, qq661, Sz661, Ng661, Hs661, Ft661⟩ := id P659_5
  have in661 : ¬ (ci3 < 0 ∨ cl661.slots.size ≤ (ci3).toNatClampNeg) := (inb_of Sz661 ⟨by decide, by decide⟩)
  have f662 := (E_x588.keep K659)
  obtain ⟨T661, h661, X661, e661, W661, st661⟩ := stR X659 hx hZ rfl Ar661 (j := ci3) in661 rfl (Sto.ofV Ar661 qq661 P659_6 (Ins.of_exa f662 (tw157 hw))) (g := (mkF m 14 #[vr b530, vr x588, vr uu30, .val cv3] [(.ref x588), cv3, (.ref uu30)])) rfl rfl (hb hby d24_14)
  have g663 := Nat.le_trans Z0 P659_3
  have f664 : Arv Z h661 uu30 uu31 (.object xs39) ci4 [(.ref x536), (.ref x545), (.ref x571), (.ref x588)] .null := Arv.set Ar661 qq661 Sz661 Ng661 Hs661 Ft661 rfl W661 3 rfl (Nat.le_of_ble_eq_true rfl)
  have N665 := Fr.snoc X661 N660 g663
  refine Go.step (fun _ k => st661 _ (XS.aloadN X661.here hx rfl (hb hby d24_15) rfl rfl (XS.iloadN X661.here hx rfl (hb hby d24_16) rfl (XS.iconst X661.here hx rfl (hb hby d24_17) (XS.iadd X661.here hx rfl (hb hby d24_18) rfl k))))) ?_
  show Go p e below s _ _ _ T661 (mkF m 19 #[vr b530, vr x588, vr uu30, .val cv3] [cv4, (.ref b530)])
  have ne666 : b530 ≠ uu30 := Nat.ne_of_lt (Nat.lt_of_lt_of_le E_b530.lt P659_3)
  have f667 := (P659_0.other W661 (Or.inl ne666))
  have f668 := ((E_b530.keep K659).wr W661)
  obtain ⟨T669, h669, X669, e669, W669, st669⟩ := putF X661 hx hZ hown (host := "") (Or.inl (tw158 hw)) Via.refl e661 f667 f668 (Or.inl (tw159 hw)) (tw50 hw) (ty := .int) (by decide) rfl rfl (g := (mkF m 19 #[vr b530, vr x588, vr uu30, .val cv3] [cv4, (.ref b530)])) rfl rfl (hb hby d24_19)
  have f670 := f667.same W669
  have N671 := Fr.snoc X669 N665 g_b530
  refine Go.step (fun _ k => st669 _ k) ?_
  show Go p e below s _ _ _ T669 (mkF m 22 #[vr b530, vr x588, vr uu30, .val cv3] [])
  have z672 := Nat.le_trans (Nat.le_refl _) P659_3
  have f673 := ((((Keep.refl h0 [b530]).trans K659 (allS (Or.inl (List.mem_of_getElem? (i := 0) rfl)) all0)).wr W661 (Or.inr z672)).wr W669 (Or.inl (List.mem_of_getElem? (i := 0) rfl)))
  have f674 := ((P659_1.other W661 (Or.inl ne666)).other W669 (Or.inr (slot_ne (Or.inl (tw187 hw)) (Or.inl (tw159 hw)) (by decide) (t := (.array (.object xs39))) (t' := .int) (by decide) (by decide))))
  have f675 := ((P659_2.other W661 (Or.inl ne666)).other W669 (Or.inr (slot_ne (Or.inl (tw143 hw)) (Or.inl (tw159 hw)) (by decide) (t := .int) (t' := .int) (by decide) (by decide))))
  have f676 := ((P659_4.wr W661).wr W669)
  have f677 := (f664.other W669 (Ne.symm ne666))
  have f678 := (Nat.le_trans (Nat.le_trans (Nat.le_trans (Nat.le_refl _) K659.1) (Keep.of_wr W661).1) (Keep.of_wr W669).1)
  exact Go.retV X669 hx hlk Bd.returns (hb hby d24_22) e669 ⟨uu30, uu31, rfl, N671, f673, f670, f674, f675, z672, f676, f677, P659_6⟩ (by decide) (by decide)

theorem ef_ArrayList_add_2 (m : MethodId) (x0 : Addr) (x1 : Addr) : entryFrame m #[(.ref x0), (.ref x1)] 2 = mkF m 0 #[vr x0, vr x1] [] := by first | (simp [entryFrame, mkF, argsToLocals, Value.category]; done) | rfl
def Q_ArrayList_add_2 (Z : State) (b530 : Addr) (x588 : Addr) (uu22 : Addr) (uu23 : ClassId) (x536 : Addr) (x545 : Addr) (x571 : Addr) (moa : Addr) (h0 : Heap) (n0 : Nat) (v : Option Value) (h : Heap) (L : List Loc) : Prop := ∃ (uu32 : Addr) (uu33 : ClassId), v = some cv1 ∧ Fr n0 L ∧ Keep h0 h [b530] ∧ Fld Z h b530 xs29 "modCount" "I" cv2 ∧ Fld Z h b530 xs35 "elementData" xs34 (.ref uu32) ∧ Fld Z h b530 xs35 "size" "I" cv4 ∧ h0.size ≤ uu32 ∧ Exa Z h uu32 xs34 ∧ Arv Z h uu32 uu33 (.object xs39) ci4 [(.ref x536), (.ref x545), (.ref x571), (.ref x588)] .null ∧ Ovr Z uu33 xs39
set_option maxRecDepth 65536 in
set_option maxHeartbeats 40000000 in
theorem rm_ArrayList_add_2 (l : Launch) (Z : State) (a0 : Array Value) (hw : ∀ d ∈ tables_1, d.before a0 Z = true) (ws : List Jvm.Cond) (b530 : Addr) (x588 : Addr) (uu22 : Addr) (uu23 : ClassId) (x536 : Addr) (x545 : Addr) (x571 : Addr) (moa : Addr) (h0 : Heap) (n0 : Nat) (Z0 : n0 ≤ h0.size) (F_modCount_b530 : Fld Z h0 b530 xs29 "modCount" "I" cv1) (E_b530 : Exa Z h0 b530 xs35) (g_b530 : n0 ≤ b530) (F_elementData_b530 : Fld Z h0 b530 xs35 "elementData" xs34 (.ref uu22)) (F_size_b530 : Fld Z h0 b530 xs35 "size" "I" cv3) (V_b363_381_386_401_406_434_582 : Arv Z h0 uu22 uu23 (.object xs39) ci3 [(.ref x536), (.ref x545), (.ref x571)] .null) (E_b363_381_386_401_406_434_582 : Exa Z h0 uu22 xs34) (M_moa : Mir Z xs34 moa) (E_x571 : Exa Z h0 x571 xs17) (E_x545 : Exa Z h0 x545 xs17) (E_x536 : Exa Z h0 x536 xs17) (E_x588 : Exa Z h0 x588 xs17) (ne_b363_381_386_401_406_434_582_b530 : uu22 ≠ b530) :
    MetFree l xm32 (head1 (Jvm.Cond.code xm32 jdk_38_method_25_code 2 (some .boolean) :: ws) xr27) (fun a U => a = #[(.ref b530), (.ref x588)] ∧ Z.Warmed39 U.vm ∧ U.heap = h0) (fun _ _ _ _ _ => True) (fun _ U o U' => ∃ v L, o = .returned v ∧ Q_ArrayList_add_2 Z b530 x588 uu22 uu23 x536 x545 x571 moa h0 n0 v U'.heap L ∧ FrameEnd U o U' L xr27.cells xr27.slots) := by
  refine MetFree.of_bodySF (plainFor_of_name pn_13) hisR ?_
  intro p e s m args below meth c s₁ Bd hml0 hP hK
  obtain ⟨rfl, hZ, hh⟩ := hP
  have hx := Bd.exec
  have hby := Bd.bytes
  have hlk : meth.locks = false := BodyLoose.notSynchronized Bd
  have hml : c.maxLocals = 2 := hml0
  have hown : s.vm.findClass xs35 = some m.cls := findClass_of_methodNamed Bd.named
  have hnm := (name_of_methodNamed Bd.named Bd.method).1
  have X0 : Stand p l e xr27 s m #[(.ref b530), (.ref x588)] below meth c s₁ [] 0 0 := Stand.of_body Bd
  have e0 : s₁.heap = h0 := by rw [← hh, Bd.state]; rfl
  have N0 := Fr.nil n0
  show Go p e below s (Q_ArrayList_add_2 Z b530 x588 uu22 uu23 x536 x545 x571 moa h0 n0) xr27.cells xr27.slots s₁ (entryFrame m #[(.ref b530), (.ref x588)] 2)
  refine Go.cast (ef_ArrayList_add_2 m b530 x588) ?_
  show Go p e below s _ _ _ s₁ (mkF m 0 #[vr b530, vr x588] [])
  refine Go.step (fun _ k => XS.aloadN X0.here hx rfl (hb hby d23_0) rfl rfl (XS.dup X0.here hx rfl (hb hby d23_1) rfl rfl k)) ?_
  show Go p e below s _ _ _ s₁ (mkF m 2 #[vr b530, vr x588] [(.ref b530), (.ref b530)])
  obtain ⟨T595, X595, e595, st595⟩ := getF X0 hx hZ hown (host := "") (Or.inl (tw204 hw)) (Via.of (tw205 hw)) e0 F_modCount_b530 (g := (mkF m 2 #[vr b530, vr x588] [(.ref b530), (.ref b530)])) rfl rfl (hb hby d23_2)
  refine Go.step (fun _ k => st595 _ (XS.iconst X595.here hx rfl (hb hby d23_5) (XS.iadd X595.here hx rfl (hb hby d23_6) rfl k))) ?_
  show Go p e below s _ _ _ T595 (mkF m 7 #[vr b530, vr x588] [cv2, (.ref b530)])
  obtain ⟨T596, h596, X596, e596, W596, st596⟩ := putF X595 hx hZ hown (host := "") (Or.inl (tw204 hw)) (Via.of (tw205 hw)) e595 F_modCount_b530 E_b530 (Or.inl (tw143 hw)) (tw50 hw) (ty := .int) (by decide) rfl rfl (g := (mkF m 7 #[vr b530, vr x588] [cv2, (.ref b530)])) rfl rfl (hb hby d23_7)
  have f597 := F_modCount_b530.same W596
  have N598 := Fr.snoc X596 N0 g_b530
  refine Go.step (fun _ k => st596 _ (XS.aloadN X596.here hx rfl (hb hby d23_10) rfl rfl (XS.aloadN X596.here hx rfl (hb hby d23_11) rfl rfl (XS.aloadN X596.here hx rfl (hb hby d23_12) rfl rfl k)))) ?_
  show Go p e below s _ _ _ T596 (mkF m 13 #[vr b530, vr x588] [(.ref b530), (.ref x588), (.ref b530)])
  have f599 := (F_elementData_b530.other W596 (Or.inr (slot_ne (Or.inl (tw187 hw)) (Or.inl (tw143 hw)) (by decide) (t := (.array (.object xs39))) (t' := .int) (by decide) (by decide))))
  obtain ⟨T600, X600, e600, st600⟩ := getF X596 hx hZ hown (host := "") (Or.inl (tw186 hw)) Via.refl e596 f599 (g := (mkF m 13 #[vr b530, vr x588] [(.ref b530), (.ref x588), (.ref b530)])) rfl rfl (hb hby d23_13)
  refine Go.step (fun _ k => st600 _ (XS.aloadN X600.here hx rfl (hb hby d23_16) rfl rfl k)) ?_
  show Go p e below s _ _ _ T600 (mkF m 17 #[vr b530, vr x588] [(.ref b530), (.ref uu22), (.ref x588), (.ref b530)])
  have f601 := (F_size_b530.other W596 (Or.inr (slot_ne (Or.inl (tw159 hw)) (Or.inl (tw143 hw)) (by decide) (t := .int) (t' := .int) (by decide) (by decide))))
  obtain ⟨T602, X602, e602, st602⟩ := getF X600 hx hZ hown (host := "") (Or.inl (tw158 hw)) Via.refl e600 f601 (g := (mkF m 17 #[vr b530, vr x588] [(.ref b530), (.ref uu22), (.ref x588), (.ref b530)])) rfl rfl (hb hby d23_17)
  refine Go.step (fun _ k => st602 _ k) ?_
  show Go p e below s _ _ _ T602 (mkF m 20 #[vr b530, vr x588] [cv3, (.ref uu22), (.ref x588), (.ref b530)])
  have f679 := (Nat.le_trans Z0 (Keep.of_wr W596).1)
  have f681 := (V_b363_381_386_401_406_434_582.other W596 ne_b363_381_386_401_406_434_582_b530)
  have f682 := (E_b363_381_386_401_406_434_582.wr W596)
  have f683 := (E_x571.wr W596)
  have f684 := (E_x545.wr W596)
  have f685 := (E_x536.wr W596)
  have f686 := (E_b530.wr W596)
  have f687 := (E_x588.wr W596)
  obtain ⟨cq688, q688, q688'⟩ := f686.cell
  obtain ⟨_, _, ⟨T688, L688, k688, n688⟩, -, X688, ⟨Lc688, hQ688, l688, y688, z688⟩, st688⟩ := X602.privateBack hx (y := xm31) hown (mvT hZ (tw206 hw)) (mvT hZ (tw207 hw)) (mvT hZ (tw209 hw)) (Cond.privateMethod_at (mvP hZ (tw208 hw) (args := #[]))) (mvT hZ (tw210 hw)) (by decide) (backOf (W := 0) (rm_ArrayList_add_3 l Z a0 hw [] b530 x588 uu22 uu23 x536 x545 x571 moa h596 n0 f679 f681 f601 f599 f682 M_moa f683 f684 f685 f686 g_b530 f597 f687) hZ (tw210 hw) (tw51 hw) (by decide) (by decide)) (g := (mkF m 20 #[vr b530, vr x588] [cv3, (.ref uu22), (.ref x588), (.ref b530)])) rfl (by rw [hml]; rfl) (Steps.refl _) (a := b530) (by rw [e602]; exact q688) q688' (argsL := [(.ref x588), (.ref uu22), cv3]) (rest := []) (lenOf pd_20 rfl) rfl (Nat.le_of_eq rfl) (hb hby d23_20) (fun _ _ => ⟨rfl, e602, (by decide : 0 + 1 ≤ _), (by decide : 0 + 4 ≤ _)⟩)
  dsimp only [Pt.U, Pt.locs, Pt.cells, Pt.slots] at X688 l688 y688 z688 st688 hQ688
  subst l688 y688 z688
  obtain ⟨uu32, uu33, rfl, N688q, K688, P688_0, P688_1, P688_2, P688_3, P688_4, P688_5, P688_6⟩ := hQ688
  have N689 := Fr.app N598 N688q
  refine Go.step (fun _ k => st688.trans (XS.iconst X688.here hx rfl (hb hby d23_23) k)) ?_
  show Go p e below s _ _ _ T688 (mkF m 24 #[vr b530, vr x588] [cv1])
  have f690 := (((Keep.refl h0 [b530]).wr W596 (Or.inl (List.mem_of_getElem? (i := 0) rfl))).trans K688 (allS (Or.inl (List.mem_of_getElem? (i := 0) rfl)) all0))
  have f691 := (Nat.le_trans (Nat.le_refl _) (Keep.of_wr W596).1)
  have z692 := Nat.le_trans f691 P688_3
  have f693 := (Nat.le_trans (Nat.le_trans (Nat.le_refl _) (Keep.of_wr W596).1) K688.1)
  exact Go.retN X688 hx hlk (t := .boolean) Bd.returns (by simp) (hb hby d23_24) rfl ⟨uu32, uu33, rfl, N689, f690, P688_2, P688_1, P688_0, z692, P688_4, P688_5, P688_6⟩ (by decide) (by decide)

theorem ef_Trip_goods_1 (m : MethodId) (x0 : Addr) : entryFrame m #[(.ref x0)] 3 = mkF m 0 #[vr x0, .unset, .unset] [] := by first | (simp [entryFrame, mkF, argsToLocals, Value.category]; done) | rfl
def Q_Trip_goods_1 (Z : State) (b113 : Addr) (ar : Int32) (els : List Value) (x536 : Addr) (dp : Int32) (x545 : Addr) (m12 : Addr) (mal : Addr) (moa : Addr) (em : Addr) (hot : Addr) (kk : Int32) (x571 : Addr) (hg : Addr) (x588 : Addr) (li : Addr) (al : Addr) (ea : Addr) (kea : ClassId) (lo : Addr) (lg : Addr) (lc : Addr) (h0 : Heap) (n0 : Nat) (v : Option Value) (h : Heap) (L : List Loc) : Prop := ∃ (b530 : Addr) (uu34 : Addr) (uu35 : ClassId), v = some (.ref b530) ∧ Fr n0 L ∧ Keep h0 h [] ∧ h0.size ≤ b530 ∧ Exa Z h b530 xs35 ∧ Fld Z h b530 xs29 "modCount" "I" cv2 ∧ Fld Z h b530 xs35 "size" "I" cv4 ∧ Fld Z h b530 xs35 "elementData" xs34 (.ref uu34) ∧ h0.size ≤ uu34 ∧ Exa Z h uu34 xs34 ∧ Arv Z h uu34 uu35 (.object xs39) ci4 [(.ref x536), (.ref x545), (.ref x571), (.ref x588)] .null ∧ Ovr Z uu35 xs39 ∧ b530 ≠ uu34
set_option maxRecDepth 65536 in
set_option maxHeartbeats 40000000 in
theorem rm_Trip_goods_1 (l : Launch) (Z : State) (a0 : Array Value) (hw : ∀ d ∈ tables_1, d.before a0 Z = true) (ws : List Jvm.Cond) (b113 : Addr) (ar : Int32) (els : List Value) (x536 : Addr) (dp : Int32) (x545 : Addr) (m12 : Addr) (mal : Addr) (moa : Addr) (em : Addr) (hot : Addr) (kk : Int32) (x571 : Addr) (hg : Addr) (x588 : Addr) (li : Addr) (al : Addr) (ea : Addr) (kea : ClassId) (lo : Addr) (lg : Addr) (lc : Addr) (h0 : Heap) (n0 : Nat) (Z0 : n0 ≤ h0.size) (F_arrival_b113 : Fld Z h0 b113 xs18 "arrival" "I" (.int ar)) (pk_537 : (els : List Value).getD ((((ci0 * ci4) + ar) - ci1)).toNatClampNeg .null = .ref x536) (har : own_I ar) (O0 : Old Z n0 h0) (Z_S_INFLIGHT : Sta Z Z.heap xs11 "INFLIGHT" xs10 (.ref li)) (Z_E_li : Exa Z Z.heap li xs11) (Z_F_first_li : Fld Z Z.heap li xs11 "first" "I" cv1) (Z_F_ordinal_li : Fld Z Z.heap li xs43 "ordinal" "I" cv0) (Z_S_ALL : Sta Z Z.heap xs17 "ALL" xs40 (.ref al)) (Z_E_al : Exa Z Z.heap al xs22) (Z_F_elements_al : Fld Z Z.heap al xs22 "elements" xs34 (.ref ea)) (Z_A_ea : Arv Z Z.heap ea kea (.object xs39) ci28 els .null) (E_x536 : Exa Z h0 x536 xs17) (F_departure_b113 : Fld Z h0 b113 xs18 "departure" "I" (.int dp)) (pk_546 : (els : List Value).getD ((((ci1 * ci4) + dp) - ci2)).toNatClampNeg .null = .ref x545) (hO : own_O dp) (Z_S_OUTFLIGHT : Sta Z Z.heap xs11 "OUTFLIGHT" xs10 (.ref lo)) (Z_E_lo : Exa Z Z.heap lo xs11) (Z_F_first_lo : Fld Z Z.heap lo xs11 "first" "I" cv2) (Z_F_ordinal_lo : Fld Z Z.heap lo xs43 "ordinal" "I" cv1) (E_x545 : Exa Z h0 x545 xs17) (M_m12 : Mir Z xs21 m12) (M_mal : Mir Z xs35 mal) (M_moa : Mir Z xs34 moa) (Z_S_EMPTY : Sta Z Z.heap xs26 "EMPTY" xs36 (.ref em)) (Z_E_em : Exa Z Z.heap em xs39) (ne_x545_em : x545 ≠ em) (ne_m12_mal : m12 ≠ mal) (hl0 : ar < dp) (F_hotel_b113 : Fld Z h0 b113 xs18 "hotel" xs13 (.ref hot)) (pk_572 : (els : List Value).getD ((((kk * ci4) + ar) - ci1)).toNatClampNeg .null = .ref x571) (hKk : own_K hg hot kk) (Z_S_GOOD : Sta Z Z.heap xs16 "GOOD" xs13 (.ref hg)) (Z_S_GOOD_HOTEL : Sta Z Z.heap xs11 "GOOD_HOTEL" xs10 (.ref lg)) (Z_E_lg : Exa Z Z.heap lg xs11) (Z_F_first_lg : Fld Z Z.heap lg xs11 "first" "I" cv1) (Z_F_ordinal_lg : Fld Z Z.heap lg xs43 "ordinal" "I" cv2) (Z_S_CHEAP_HOTEL : Sta Z Z.heap xs11 "CHEAP_HOTEL" xs10 (.ref lc)) (Z_E_lc : Exa Z Z.heap lc xs11) (Z_F_first_lc : Fld Z Z.heap lc xs11 "first" "I" cv1) (Z_F_ordinal_lc : Fld Z Z.heap lc xs43 "ordinal" "I" cv3) (E_x571 : Exa Z h0 x571 xs17) (hl1 : (ar + ci1) < dp) (pk_589 : (els : List Value).getD ((((kk * ci4) + (ar + ci1)) - ci1)).toNatClampNeg .null = .ref x588) (hI1 : own_I (ar + ci1)) (E_x588 : Exa Z h0 x588 xs17) (hl2 : ¬ ((ar + ci1) + ci1) < dp) :
    MetFree l xm23 (head1 (Jvm.Cond.code xm23 prog_82_method_5_code 3 (some (.object xs44)) :: ws) xr1) (fun a U => a = #[(.ref b113)] ∧ Z.Warmed39 U.vm ∧ U.heap = h0) (fun _ _ _ _ _ => True) (fun _ U o U' => ∃ v L, o = .returned v ∧ Q_Trip_goods_1 Z b113 ar els x536 dp x545 m12 mal moa em hot kk x571 hg x588 li al ea kea lo lg lc h0 n0 v U'.heap L ∧ FrameEnd U o U' L xr1.cells xr1.slots) := by
  refine MetFree.of_bodySF (plainFor_of_name pn_3) hisR ?_
  intro p e s m args below meth c s₁ Bd hml0 hP hK
  obtain ⟨rfl, hZ, hh⟩ := hP
  have hx := Bd.exec
  have hby := Bd.bytes
  have hlk : meth.locks = false := BodyLoose.notSynchronized Bd
  have hml : c.maxLocals = 3 := hml0
  have hown : s.vm.findClass xs18 = some m.cls := findClass_of_methodNamed Bd.named
  have hnm := (name_of_methodNamed Bd.named Bd.method).1
  have X0 : Stand p l e xr1 s m #[(.ref b113)] below meth c s₁ [] 0 0 := Stand.of_body Bd
  have e0 : s₁.heap = h0 := by rw [← hh, Bd.state]; rfl
  have N0 := Fr.nil n0
  show Go p e below s (Q_Trip_goods_1 Z b113 ar els x536 dp x545 m12 mal moa em hot kk x571 hg x588 li al ea kea lo lg lc h0 n0) xr1.cells xr1.slots s₁ (entryFrame m #[(.ref b113)] 3)
  refine Go.cast (ef_Trip_goods_1 m b113) ?_
  show Go p e below s _ _ _ s₁ (mkF m 0 #[vr b113, .unset, .unset] [])
  obtain ⟨T530, h530, X530, e530, E530, A530, D530, -, st530⟩ := newO X0 hx hZ hown (tw49 hw) (tw50 hw) (tw51 hw) e0 (g := (mkF m 0 #[vr b113, .unset, .unset] [])) rfl (hb hby d11_0) (by decide) (by decide)
  obtain ⟨b530, g530⟩ : ∃ z, z = h0.size := ⟨_, rfl⟩
  rw [← g530] at A530 D530 st530
  have f531 : Fld Z h530 b530 xs29 "modCount" "I" cv0 := D530 (Or.inl (tw143 hw)) (ty := .int) (by decide)
  have f532 : Fld Z h530 b530 xs35 "size" "I" cv0 := D530 (Or.inl (tw159 hw)) (ty := .int) (by decide)
  have f533 : Fld Z h530 b530 xs35 "elementData" xs34 .null := D530 (Or.inl (tw187 hw)) (ty := (.array (.object xs39))) (by decide)
  refine Go.step (fun _ k => st530 _ (XS.dup X530.here hx rfl (hb hby d11_3) rfl rfl (XS.aloadN X530.here hx rfl (hb hby d11_4) rfl rfl k))) ?_
  show Go p e below s _ _ _ T530 (mkF m 5 #[vr b113, .unset, .unset] [(.ref b113), (.ref b530), (.ref b530)])
  have f534 := (F_arrival_b113.ext E530)
  obtain ⟨T535, X535, e535, st535⟩ := getF X530 hx hZ hown (host := "") (Or.inl (tw33 hw)) Via.refl e530 f534 (g := (mkF m 5 #[vr b113, .unset, .unset] [(.ref b113), (.ref b530), (.ref b530)])) rfl rfl (hb hby d11_5)
  refine Go.step (fun _ k => st535 _ k) ?_
  show Go p e below s _ _ _ T535 (mkF m 8 #[vr b113, .unset, .unset] [(.int ar), (.ref b530), (.ref b530)])
  have f538 := (O0.ext E530)
  have f539 := (Nat.le_trans Z0 E530.1)
  have f540 := (E_x536.ext E530)
  obtain ⟨_, _, ⟨T541, L541, k541, n541⟩, -, X541, ⟨Lc541, hQ541, l541, y541, z541⟩, st541⟩ := Jvm.LawKit.callS X535 hx (y := xm9) hown (mvT hZ (tw52 hw)) (mvT hZ (tw53 hw)) (mvT hZ (tw54 hw)) (mvT hZ (tw55 hw)) (by decide) (backOf (W := 2) (rm_inflight l Z a0 hw [] ar x536 li al ea kea els h530 n0 f539 f538 Z_S_INFLIGHT Z_E_li Z_F_first_li Z_F_ordinal_li Z_S_ALL Z_E_al Z_F_elements_al Z_A_ea f540 har pk_537) hZ (tw55 hw) (tw54 hw) (by decide) (by decide)) (g := (mkF m 8 #[vr b113, .unset, .unset] [(.int ar), (.ref b530), (.ref b530)])) rfl (by rw [hml]; rfl) (argsL := [(.int ar)]) (rest := [(.ref b530), (.ref b530)]) (lenOf pd_8 rfl) rfl (Nat.le_of_eq rfl) (hb hby d11_8) (fun _ _ => ⟨rfl, e535, (by decide : 1 + 0 ≤ _), (by decide : 3 + 0 ≤ _)⟩)
  dsimp only [Pt.U, Pt.locs, Pt.cells, Pt.slots] at X541 l541 y541 z541 st541 hQ541
  subst l541 y541 z541
  obtain ⟨rfl, N541q, eq541⟩ := hQ541
  have N542 := Fr.app N0 N541q
  refine Go.step (fun _ k => st541 _ (XS.aloadN X541.here hx rfl (hb hby d11_11) rfl rfl k)) ?_
  show Go p e below s _ _ _ T541 (mkF m 12 #[vr b113, .unset, .unset] [(.ref b113), (.ref x536), (.ref b530), (.ref b530)])
  have f543 := (F_departure_b113.ext E530)
  obtain ⟨T544, X544, e544, st544⟩ := getF X541 hx hZ hown (host := "") (Or.inl (tw35 hw)) Via.refl eq541 f543 (g := (mkF m 12 #[vr b113, .unset, .unset] [(.ref b113), (.ref x536), (.ref b530), (.ref b530)])) rfl rfl (hb hby d11_12)
  refine Go.step (fun _ k => st544 _ k) ?_
  show Go p e below s _ _ _ T544 (mkF m 15 #[vr b113, .unset, .unset] [(.int dp), (.ref x536), (.ref b530), (.ref b530)])
  have f547 := (E_x545.ext E530)
  obtain ⟨_, _, ⟨T548, L548, k548, n548⟩, -, X548, ⟨Lc548, hQ548, l548, y548, z548⟩, st548⟩ := Jvm.LawKit.callS X544 hx (y := xm6) hown (mvT hZ (tw89 hw)) (mvT hZ (tw90 hw)) (mvT hZ (tw54 hw)) (mvT hZ (tw91 hw)) (by decide) (backOf (W := 3) (rm_outflight l Z a0 hw [] dp x545 lo al ea kea els h530 n0 f539 f538 Z_S_OUTFLIGHT Z_E_lo Z_F_first_lo Z_F_ordinal_lo Z_S_ALL Z_E_al Z_F_elements_al Z_A_ea f547 hO pk_546) hZ (tw91 hw) (tw54 hw) (by decide) (by decide)) (g := (mkF m 15 #[vr b113, .unset, .unset] [(.int dp), (.ref x536), (.ref b530), (.ref b530)])) rfl (by rw [hml]; rfl) (argsL := [(.int dp)]) (rest := [(.ref x536), (.ref b530), (.ref b530)]) (lenOf pd_8 rfl) rfl (Nat.le_of_eq rfl) (hb hby d11_15) (fun _ _ => ⟨rfl, e544, (by decide : 1 + 0 ≤ _), (by decide : 3 + 0 ≤ _)⟩)
  dsimp only [Pt.U, Pt.locs, Pt.cells, Pt.slots] at X548 l548 y548 z548 st548 hQ548
  subst l548 y548 z548
  obtain ⟨rfl, N548q, eq548⟩ := hQ548
  have N549 := Fr.app N542 N548q
  refine Go.step (fun _ k => st548 _ k) ?_
  show Go p e below s _ _ _ T548 (mkF m 18 #[vr b113, .unset, .unset] [(.ref x545), (.ref x536), (.ref b530), (.ref b530)])
  obtain ⟨_, _, ⟨T550, L550, k550, n550⟩, -, X550, ⟨Lc550, hQ550, l550, y550, z550⟩, st550⟩ := Jvm.LawKit.callS X548 hx (y := xm38) hown (mvT hZ (tw94 hw)) (mvT hZ (tw95 hw)) (mvT hZ (tw96 hw)) (mvT hZ (tw97 hw)) (by decide) (backOf (W := 2) (rm_List_of_0 l Z a0 hw [] x536 x545 h530 n0 f539) hZ (tw97 hw) (tw96 hw) (by decide) (by decide)) (g := (mkF m 18 #[vr b113, .unset, .unset] [(.ref x545), (.ref x536), (.ref b530), (.ref b530)])) rfl (by rw [hml]; rfl) (argsL := [(.ref x536), (.ref x545)]) (rest := [(.ref b530), (.ref b530)]) (lenOf pd_11 rfl) rfl (Nat.le_of_eq rfl) (hb hby d11_18) (fun _ _ => ⟨rfl, eq548, (by decide : 1 + 1 ≤ _), (by decide : 3 + 2 ≤ _)⟩)
  dsimp only [Pt.U, Pt.locs, Pt.cells, Pt.slots] at X550 l550 y550 z550 st550 hQ550
  subst l550 y550 z550
  obtain ⟨uu36, rfl, N550q, K550, P550_0, P550_1, P550_2, P550_3⟩ := hQ550
  have N551 := Fr.app N549 N550q
  refine Go.step (fun _ k => st550 _ k) ?_
  show Go p e below s _ _ _ T550 (mkF m 21 #[vr b113, .unset, .unset] [(.ref uu36), (.ref b530), (.ref b530)])
  have f552 := (f538.keep K550 all0)
  have f553 := (Nat.le_trans f539 K550.1)
  have f554 := (A530.keep K550)
  have f555 := (f531.keep K550 nin0)
  have g556 := Nat.le_trans Z0 (Nat.le_of_eq g530.symm)
  have f557 := (f533.keep K550 nin0)
  have f558 := (f532.keep K550 nin0)
  have f559 := (f540.keep K550)
  have f560 := (f547.keep K550)
  have ne561 : b530 ≠ uu36 := Nat.ne_of_lt (Nat.lt_of_lt_of_le A530.lt P550_0)
  obtain ⟨_, _, ⟨T562, L562, k562, n562⟩, -, X562, ⟨Lc562, hQ562, l562, y562, z562⟩, st562⟩ := X550.specialBack hx (y := xm18) rfl hown (mvT hZ (tw131 hw)) (mvT hZ (tw132 hw)) (mvT hZ (tw133 hw)) (by decide) (backOf (W := 1) (rm_ArrayList_new_0 l Z a0 hw [] b530 uu36 x545 em x536 m12 mal moa T550.heap n0 f553 f554 f555 g556 f557 f558 P550_1 P550_3 Z_S_EMPTY f552 Z_E_em ne_x545_em P550_2 f559 f560 (Ne.symm ne561) M_m12 M_mal ne_m12_mal M_moa) hZ (tw133 hw) (tw51 hw) (by decide) (by decide)) (g := (mkF m 21 #[vr b113, .unset, .unset] [(.ref uu36), (.ref b530), (.ref b530)])) rfl (by rw [hml]; rfl) (Steps.refl _) (a := b530) (argsL := [(.ref uu36)]) (rest := [(.ref b530)]) (lenOf pd_15 rfl) rfl (Nat.le_of_eq rfl) (hb hby d11_21) (fun _ _ => ⟨rfl, rfl, (by decide : 2 + 2 ≤ _), (by decide : 5 + 4 ≤ _)⟩)
  dsimp only [Pt.U, Pt.locs, Pt.cells, Pt.slots] at X562 l562 y562 z562 st562 hQ562
  subst l562 y562 z562
  obtain ⟨uu37, uu38, rfl, N562q, K562, P562_0, P562_1, P562_2, P562_3, P562_4, P562_5, P562_6⟩ := hQ562
  have N563 := Fr.app N551 N562q
  refine Go.step (fun _ k => st562.trans (XS.astoreN X562.here hx rfl (hb hby d11_24) rfl rfl (l' := #[vr b113, vr b530, .unset]) rfl (XS.aloadN X562.here hx rfl (hb hby d11_25) rfl rfl k))) ?_
  show Go p e below s _ _ _ T562 (mkF m 26 #[vr b113, vr b530, .unset] [(.ref b113)])
  have ne564 : b113 ≠ b530 := Nat.ne_of_lt (Nat.lt_of_lt_of_le F_arrival_b113.lt (Nat.le_of_eq g530.symm))
  have f565 := ((f534.keep K550 nin0).keep K562 (ninS ne564 nin0))
  obtain ⟨T566, X566, e566, st566⟩ := getF X562 hx hZ hown (host := "") (Or.inl (tw33 hw)) Via.refl rfl f565 (g := (mkF m 26 #[vr b113, vr b530, .unset] [(.ref b113)])) rfl rfl (hb hby d11_26)
  refine Go.step (fun _ k => st566 _ (XS.istoreN X566.here hx rfl (hb hby d11_29) rfl (l' := #[vr b113, vr b530, vi ar]) rfl (XS.iloadN X566.here hx rfl (hb hby d11_30) rfl (XS.aloadN X566.here hx rfl (hb hby d11_31) rfl rfl k)))) ?_
  show Go p e below s _ _ _ T566 (mkF m 32 #[vr b113, vr b530, vi ar] [(.ref b113), (.int ar)])
  have f567 := ((f543.keep K550 nin0).keep K562 (ninS ne564 nin0))
  obtain ⟨T568, X568, e568, st568⟩ := getF X566 hx hZ hown (host := "") (Or.inl (tw35 hw)) Via.refl e566 f567 (g := (mkF m 32 #[vr b113, vr b530, vi ar] [(.ref b113), (.int ar)])) rfl rfl (hb hby d11_32)
  refine Go.step (fun _ k => st568 _ (XS.icmpNo X568.here hx rfl (hb hby d11_35) rfl (tlt hl0).2.1 (XS.aloadN X568.here hx rfl (hb hby d11_38) rfl rfl (XS.aloadN X568.here hx rfl (hb hby d11_39) rfl rfl k)))) ?_
  show Go p e below s _ _ _ T568 (mkF m 40 #[vr b113, vr b530, vi ar] [(.ref b113), (.ref b530)])
  have f569 := (((F_hotel_b113.ext E530).keep K550 nin0).keep K562 (ninS ne564 nin0))
  obtain ⟨T570, X570, e570, st570⟩ := getF X568 hx hZ hown (host := "") (Or.inl (tw37 hw)) Via.refl e568 f569 (g := (mkF m 40 #[vr b113, vr b530, vi ar] [(.ref b113), (.ref b530)])) rfl rfl (hb hby d11_40)
  refine Go.step (fun _ k => st570 _ (XS.iloadN X570.here hx rfl (hb hby d11_43) rfl k)) ?_
  show Go p e below s _ _ _ T570 (mkF m 44 #[vr b113, vr b530, vi ar] [(.int ar), (.ref hot), (.ref b530)])
  have f573 := (f552.keep K562 (allS g556 all0))
  have f574 := (Nat.le_trans f553 K562.1)
  have f575 := (((E_x571.ext E530).keep K550).keep K562)
  obtain ⟨_, _, ⟨T576, L576, k576, n576⟩, -, X576, ⟨Lc576, hQ576, l576, y576, z576⟩, st576⟩ := Jvm.LawKit.callS X570 hx (y := xm30) hown (mvT hZ (tw188 hw)) (mvT hZ (tw189 hw)) (mvT hZ (tw54 hw)) (mvT hZ (tw190 hw)) (by decide) (backOf (W := 1) (rm_room l Z a0 hw [] hot kk ar x571 hg lg lc al ea kea els T562.heap n0 f574 f573 Z_S_GOOD Z_S_GOOD_HOTEL Z_E_lg Z_F_first_lg Z_F_ordinal_lg Z_S_CHEAP_HOTEL Z_E_lc Z_F_first_lc Z_F_ordinal_lc Z_S_ALL Z_E_al Z_F_elements_al Z_A_ea f575 hKk har pk_572) hZ (tw190 hw) (tw54 hw) (by decide) (by decide)) (g := (mkF m 44 #[vr b113, vr b530, vi ar] [(.int ar), (.ref hot), (.ref b530)])) rfl (by rw [hml]; rfl) (argsL := [(.ref hot), (.int ar)]) (rest := [(.ref b530)]) (lenOf pd_16 rfl) rfl (Nat.le_of_eq rfl) (hb hby d11_44) (fun _ _ => ⟨rfl, e570, (by decide : 4 + 0 ≤ _), (by decide : 9 + 0 ≤ _)⟩)
  dsimp only [Pt.U, Pt.locs, Pt.cells, Pt.slots] at X576 l576 y576 z576 st576 hQ576
  subst l576 y576 z576
  obtain ⟨rfl, N576q, eq576⟩ := hQ576
  have N577 := Fr.app N563 N576q
  refine Go.step (fun _ k => st576 _ k) ?_
  show Go p e below s _ _ _ T576 (mkF m 47 #[vr b113, vr b530, vi ar] [(.ref x571), (.ref b530)])
  have f578 := (f554.keep K562)
  have f579 := (f560.keep K562)
  have f580 := (f559.keep K562)
  have ne581 : b530 ≠ uu37 := Nat.ne_of_lt (Nat.lt_of_lt_of_le f554.lt P562_3)
  obtain ⟨cq582, kq582, q582a, q582b, q582c⟩ := isOf hZ eq576 f578
  obtain ⟨_, _, ⟨T582, L582, k582, n582⟩, -, X582, ⟨Lc582, hQ582, l582, y582, z582⟩, st582⟩ := X576.interfaceBack hx (xi := xm33) (y := xm32) hown (mvT hZ (tw195 hw)) (mvT hZ (tw196 hw)) (mvT hZ (tw197 hw)) (mvT hZ (tw198 hw)) (mvT hZ (tw199 hw)) (mvT hZ (tw200 hw)) (mvT hZ (tw201 hw)) (mvT hZ (tw202 hw)) (by decide) (backOf (W := 0) (rm_ArrayList_add_0 l Z a0 hw [] b530 x571 uu37 uu38 x536 x545 moa T562.heap n0 f574 P562_0 f578 g556 P562_1 P562_2 P562_5 P562_4 M_moa f579 f580 f575 (Ne.symm ne581)) hZ (tw203 hw) (tw51 hw) (by decide) (by decide)) q582a q582b q582c (g := (mkF m 47 #[vr b113, vr b530, vi ar] [(.ref x571), (.ref b530)])) rfl (by rw [hml]; rfl) (Steps.refl _) (argsL := [(.ref x571)]) (rest := []) (lenOf pd_21 rfl) rfl (Nat.le_of_eq rfl) (hb hby d11_47) (fun _ _ => ⟨rfl, eq576, (by decide : 4 + 1 ≤ _), (by decide : 9 + 3 ≤ _)⟩)
  dsimp only [Pt.U, Pt.locs, Pt.cells, Pt.slots] at X582 l582 y582 z582 st582 hQ582
  subst l582 y582 z582
  obtain ⟨uu22, uu23, rfl, N582q, K582, P582_0, P582_1, P582_2, P582_3, P582_4, P582_5, P582_6⟩ := hQ582
  have N583 := Fr.app N577 N582q
  refine Go.step (fun _ k => st582.trans (XS.pop X582.here hx rfl (hb hby d11_52) rfl rfl (XS.iinc X582.here hx rfl (hb hby d11_53) rfl (l' := #[vr b113, vr b530, .val (.int (ar + ci1))]) rfl (XS.goto X582.here hx rfl (pc0 := 56) (pc' := 30) rfl (hb hby d11_56) (by decide) (by decide) (XS.iloadN X582.here hx rfl (hb hby d11_30) rfl (XS.aloadN X582.here hx rfl (hb hby d11_31) rfl rfl k)))))) ?_
  show Go p e below s _ _ _ T582 (mkF m 32 #[vr b113, vr b530, .val (.int (ar + ci1))] [(.ref b113), (.int (ar + ci1))])
  have f584 := (f567.keep K582 (ninS ne564 nin0))
  obtain ⟨T585, X585, e585, st585⟩ := getF X582 hx hZ hown (host := "") (Or.inl (tw35 hw)) Via.refl rfl f584 (g := (mkF m 32 #[vr b113, vr b530, .val (.int (ar + ci1))] [(.ref b113), (.int (ar + ci1))])) rfl rfl (hb hby d11_32)
  refine Go.step (fun _ k => st585 _ (XS.icmpNo X585.here hx rfl (hb hby d11_35) rfl (tlt hl1).2.1 (XS.aloadN X585.here hx rfl (hb hby d11_38) rfl rfl (XS.aloadN X585.here hx rfl (hb hby d11_39) rfl rfl k)))) ?_
  show Go p e below s _ _ _ T585 (mkF m 40 #[vr b113, vr b530, .val (.int (ar + ci1))] [(.ref b113), (.ref b530)])
  have f586 := (f569.keep K582 (ninS ne564 nin0))
  obtain ⟨T587, X587, e587, st587⟩ := getF X585 hx hZ hown (host := "") (Or.inl (tw37 hw)) Via.refl e585 f586 (g := (mkF m 40 #[vr b113, vr b530, .val (.int (ar + ci1))] [(.ref b113), (.ref b530)])) rfl rfl (hb hby d11_40)
  refine Go.step (fun _ k => st587 _ (XS.iloadN X587.here hx rfl (hb hby d11_43) rfl k)) ?_
  show Go p e below s _ _ _ T587 (mkF m 44 #[vr b113, vr b530, .val (.int (ar + ci1))] [(.int (ar + ci1)), (.ref hot), (.ref b530)])
  have f590 := (f573.keep K582 (allS g556 all0))
  have f591 := (Nat.le_trans f574 K582.1)
  have f592 := ((((E_x588.ext E530).keep K550).keep K562).keep K582)
  obtain ⟨_, _, ⟨T593, L593, k593, n593⟩, -, X593, ⟨Lc593, hQ593, l593, y593, z593⟩, st593⟩ := Jvm.LawKit.callS X587 hx (y := xm30) hown (mvT hZ (tw188 hw)) (mvT hZ (tw189 hw)) (mvT hZ (tw54 hw)) (mvT hZ (tw190 hw)) (by decide) (backOf (W := 1) (rm_room l Z a0 hw [] hot kk (ar + ci1) x588 hg lg lc al ea kea els T582.heap n0 f591 f590 Z_S_GOOD Z_S_GOOD_HOTEL Z_E_lg Z_F_first_lg Z_F_ordinal_lg Z_S_CHEAP_HOTEL Z_E_lc Z_F_first_lc Z_F_ordinal_lc Z_S_ALL Z_E_al Z_F_elements_al Z_A_ea f592 hKk hI1 pk_589) hZ (tw190 hw) (tw54 hw) (by decide) (by decide)) (g := (mkF m 44 #[vr b113, vr b530, .val (.int (ar + ci1))] [(.int (ar + ci1)), (.ref hot), (.ref b530)])) rfl (by rw [hml]; rfl) (argsL := [(.ref hot), (.int (ar + ci1))]) (rest := [(.ref b530)]) (lenOf pd_16 rfl) rfl (Nat.le_of_eq rfl) (hb hby d11_44) (fun _ _ => ⟨rfl, e587, (by decide : 5 + 0 ≤ _), (by decide : 12 + 0 ≤ _)⟩)
  dsimp only [Pt.U, Pt.locs, Pt.cells, Pt.slots] at X593 l593 y593 z593 st593 hQ593
  subst l593 y593 z593
  obtain ⟨rfl, N593q, eq593⟩ := hQ593
  have N594 := Fr.app N583 N593q
  refine Go.step (fun _ k => st593 _ k) ?_
  show Go p e below s _ _ _ T593 (mkF m 47 #[vr b113, vr b530, .val (.int (ar + ci1))] [(.ref x588), (.ref b530)])
  have ne680 : b530 ≠ uu22 := Nat.ne_of_lt (Nat.lt_of_lt_of_le f578.lt P582_3)
  have f694 := (f578.keep K582)
  have f695 := (f575.keep K582)
  have f696 := (f579.keep K582)
  have f697 := (f580.keep K582)
  obtain ⟨cq698, kq698, q698a, q698b, q698c⟩ := isOf hZ eq593 f694
  obtain ⟨_, _, ⟨T698, L698, k698, n698⟩, -, X698, ⟨Lc698, hQ698, l698, y698, z698⟩, st698⟩ := X593.interfaceBack hx (xi := xm33) (y := xm32) hown (mvT hZ (tw195 hw)) (mvT hZ (tw196 hw)) (mvT hZ (tw197 hw)) (mvT hZ (tw198 hw)) (mvT hZ (tw199 hw)) (mvT hZ (tw200 hw)) (mvT hZ (tw201 hw)) (mvT hZ (tw202 hw)) (by decide) (backOf (W := 0) (rm_ArrayList_add_2 l Z a0 hw [] b530 x588 uu22 uu23 x536 x545 x571 moa T582.heap n0 f591 P582_0 f694 g556 P582_1 P582_2 P582_5 P582_4 M_moa f695 f696 f697 f592 (Ne.symm ne680)) hZ (tw203 hw) (tw51 hw) (by decide) (by decide)) q698a q698b q698c (g := (mkF m 47 #[vr b113, vr b530, .val (.int (ar + ci1))] [(.ref x588), (.ref b530)])) rfl (by rw [hml]; rfl) (Steps.refl _) (argsL := [(.ref x588)]) (rest := []) (lenOf pd_21 rfl) rfl (Nat.le_of_eq rfl) (hb hby d11_47) (fun _ _ => ⟨rfl, eq593, (by decide : 5 + 1 ≤ _), (by decide : 12 + 4 ≤ _)⟩)
  dsimp only [Pt.U, Pt.locs, Pt.cells, Pt.slots] at X698 l698 y698 z698 st698 hQ698
  subst l698 y698 z698
  obtain ⟨uu34, uu35, rfl, N698q, K698, P698_0, P698_1, P698_2, P698_3, P698_4, P698_5, P698_6⟩ := hQ698
  have N699 := Fr.app N594 N698q
  refine Go.step (fun _ k => st698.trans (XS.pop X698.here hx rfl (hb hby d11_52) rfl rfl (XS.iinc X698.here hx rfl (hb hby d11_53) rfl (l' := #[vr b113, vr b530, .val (.int ((ar + ci1) + ci1))]) rfl (XS.goto X698.here hx rfl (pc0 := 56) (pc' := 30) rfl (hb hby d11_56) (by decide) (by decide) (XS.iloadN X698.here hx rfl (hb hby d11_30) rfl (XS.aloadN X698.here hx rfl (hb hby d11_31) rfl rfl k)))))) ?_
  show Go p e below s _ _ _ T698 (mkF m 32 #[vr b113, vr b530, .val (.int ((ar + ci1) + ci1))] [(.ref b113), (.int ((ar + ci1) + ci1))])
  have f700 := (f584.keep K698 (ninS ne564 nin0))
  obtain ⟨T701, X701, e701, st701⟩ := getF X698 hx hZ hown (host := "") (Or.inl (tw35 hw)) Via.refl rfl f700 (g := (mkF m 32 #[vr b113, vr b530, .val (.int ((ar + ci1) + ci1))] [(.ref b113), (.int ((ar + ci1) + ci1))])) rfl rfl (hb hby d11_32)
  refine Go.step (fun _ k => st701 _ (XS.icmpYes X701.here hx rfl (pc0 := 35) (pc' := 59) rfl (hb hby d11_35) rfl (flt hl2).2.1 (by decide) (by decide) (XS.aloadN X701.here hx rfl (hb hby d11_59) rfl rfl k))) ?_
  show Go p e below s _ _ _ T701 (mkF m 60 #[vr b113, vr b530, .val (.int ((ar + ci1) + ci1))] [(.ref b530)])
  have z702 := Nat.le_trans (Nat.le_refl _) (Nat.le_of_eq g530.symm)
  have f703 := ((((((Keep.refl h0 []).ext E530).trans K550 all0).trans K562 (allS (Or.inr z702) all0)).trans K582 (allS (Or.inr z702) all0)).trans K698 (allS (Or.inr z702) all0))
  have f704 := (f694.keep K698)
  have f705 := (Nat.le_trans (Nat.le_trans (Nat.le_trans (Nat.le_trans (Nat.le_refl _) E530.1) K550.1) K562.1) K582.1)
  have z706 := Nat.le_trans f705 P698_3
  have ne707 : b530 ≠ uu34 := Nat.ne_of_lt (Nat.lt_of_lt_of_le f694.lt P698_3)
  have f708 := (Nat.le_trans (Nat.le_trans (Nat.le_trans (Nat.le_trans (Nat.le_trans (Nat.le_refl _) E530.1) K550.1) K562.1) K582.1) K698.1)
  exact Go.retA X701 hx hlk Bd.returns rfl rfl (hb hby d11_60) e701 ⟨b530, uu34, uu35, rfl, N699, f703, z702, f704, P698_0, P698_2, P698_1, z706, P698_4, P698_5, P698_6, ne707⟩ (by decide) (by decide)

theorem ef_Math_max_1 (m : MethodId) (x0 : Int32) (x1 : Int32) : entryFrame m #[(.int x0), (.int x1)] 2 = mkF m 0 #[vi x0, vi x1] [] := by first | (simp [entryFrame, mkF, argsToLocals, Value.category]; done) | rfl
def Q_Math_max_1 (Z : State) (n833 : Int32) (n834 : Int32) (h0 : Heap) (n0 : Nat) (v : Option Value) (h : Heap) (L : List Loc) : Prop := v = some (.int n834) ∧ Fr n0 L ∧ h = h0
set_option maxRecDepth 65536 in
set_option maxHeartbeats 40000000 in
theorem rm_Math_max_1 (l : Launch) (Z : State) (a0 : Array Value) (hw : ∀ d ∈ tables_1, d.before a0 Z = true) (ws : List Jvm.Cond) (n833 : Int32) (n834 : Int32) (h0 : Heap) (n0 : Nat) (Z0 : n0 ≤ h0.size) (d_835 : n833 < n834) :
    MetFree l xm19 (head1 (Jvm.Cond.code xm19 jdk_29_method_65_code 2 (some .int) :: ws) xr35) (fun a U => a = #[(.int n833), (.int n834)] ∧ Z.Warmed39 U.vm ∧ U.heap = h0) (fun _ _ _ _ _ => True) (fun _ U o U' => ∃ v L, o = .returned v ∧ Q_Math_max_1 Z n833 n834 h0 n0 v U'.heap L ∧ FrameEnd U o U' L xr35.cells xr35.slots) := by
  refine MetFree.of_bodySF (Jvm.Free.JP.mathPlain rfl (by decide +kernel)) hisR ?_
  intro p e s m args below meth c s₁ Bd hml0 hP hK
  obtain ⟨rfl, hZ, hh⟩ := hP
  have hx := Bd.exec
  have hby := Bd.bytes
  have hlk : meth.locks = false := BodyLoose.notSynchronized Bd
  have hml : c.maxLocals = 2 := hml0
  have hown : s.vm.findClass xs46 = some m.cls := findClass_of_methodNamed Bd.named
  have hnm := (name_of_methodNamed Bd.named Bd.method).1
  have X0 : Stand p l e xr35 s m #[(.int n833), (.int n834)] below meth c s₁ [] 0 0 := Stand.of_body Bd
  have e0 : s₁.heap = h0 := by rw [← hh, Bd.state]; rfl
  have N0 := Fr.nil n0
  show Go p e below s (Q_Math_max_1 Z n833 n834 h0 n0) xr35.cells xr35.slots s₁ (entryFrame m #[(.int n833), (.int n834)] 2)
  refine Go.cast (ef_Math_max_1 m n833 n834) ?_
  show Go p e below s _ _ _ s₁ (mkF m 0 #[vi n833, vi n834] [])
  refine Go.step (fun _ k => XS.iloadN X0.here hx rfl (hb hby d28_0) rfl (XS.iloadN X0.here hx rfl (hb hby d28_1) rfl (XS.icmpYes X0.here hx rfl (pc0 := 2) (pc' := 9) rfl (hb hby d28_2) rfl (tlt d_835).1 (by decide) (by decide) (XS.iloadN X0.here hx rfl (hb hby d28_9) rfl k)))) ?_
  show Go p e below s _ _ _ s₁ (mkF m 10 #[vi n833, vi n834] [(.int n834)])
  exact Go.retI X0 hx hlk Bd.returns (hb hby d28_10) e0 ⟨rfl, N0, rfl⟩ (by decide) (by decide)

theorem ef_ArraysSupport_newLength_2 (m : MethodId) (x0 : Int32) (x1 : Int32) (x2 : Int32) : entryFrame m #[(.int x0), (.int x1), (.int x2)] 4 = mkF m 0 #[vi x0, vi x1, vi x2, .unset] [] := by first | (simp [entryFrame, mkF, argsToLocals, Value.category]; done) | rfl
def Q_ArraysSupport_newLength_2 (Z : State)  (h0 : Heap) (n0 : Nat) (v : Option Value) (h : Heap) (L : List Loc) : Prop := v = some cv6 ∧ Fr n0 L ∧ h = h0
set_option maxRecDepth 65536 in
set_option maxHeartbeats 40000000 in
theorem rm_ArraysSupport_newLength_2 (l : Launch) (Z : State) (a0 : Array Value) (hw : ∀ d ∈ tables_1, d.before a0 Z = true) (ws : List Jvm.Cond)  (h0 : Heap) (n0 : Nat) (Z0 : n0 ≤ h0.size) :
    MetFree l xm1 (head1 (Jvm.Cond.code xm1 jdk_48_method_27_code 4 (some .int) :: ws) xr13) (fun a U => a = #[cv4, cv1, cv2] ∧ Z.Warmed39 U.vm ∧ U.heap = h0) (fun _ _ _ _ _ => True) (fun _ U o U' => ∃ v L, o = .returned v ∧ Q_ArraysSupport_newLength_2 Z  h0 n0 v U'.heap L ∧ FrameEnd U o U' L xr13.cells xr13.slots) := by
  refine MetFree.of_bodySF (plainFor_of_name pn_14) hisR ?_
  intro p e s m args below meth c s₁ Bd hml0 hP hK
  obtain ⟨rfl, hZ, hh⟩ := hP
  have hx := Bd.exec
  have hby := Bd.bytes
  have hlk : meth.locks = false := BodyLoose.notSynchronized Bd
  have hml : c.maxLocals = 4 := hml0
  have hown : s.vm.findClass xs24 = some m.cls := findClass_of_methodNamed Bd.named
  have hnm := (name_of_methodNamed Bd.named Bd.method).1
  have X0 : Stand p l e xr13 s m #[cv4, cv1, cv2] below meth c s₁ [] 0 0 := Stand.of_body Bd
  have e0 : s₁.heap = h0 := by rw [← hh, Bd.state]; rfl
  have N0 := Fr.nil n0
  show Go p e below s (Q_ArraysSupport_newLength_2 Z  h0 n0) xr13.cells xr13.slots s₁ (entryFrame m #[cv4, cv1, cv2] 4)
  refine Go.cast (ef_ArraysSupport_newLength_2 m ci4 ci1 ci2) ?_
  show Go p e below s _ _ _ s₁ (mkF m 0 #[.val cv4, .val cv1, .val cv2, .unset] [])
  refine Go.step (fun _ k => XS.iloadN X0.here hx rfl (hb hby d27_0) rfl (XS.iloadN X0.here hx rfl (hb hby d27_1) rfl (XS.iloadN X0.here hx rfl (hb hby d27_2) rfl k))) ?_
  show Go p e below s _ _ _ s₁ (mkF m 3 #[.val cv4, .val cv1, .val cv2, .unset] [cv2, cv1, cv4])
  obtain ⟨_, _, ⟨T836, L836, k836, n836⟩, -, X836, ⟨Lc836, hQ836, l836, y836, z836⟩, st836⟩ := Jvm.LawKit.callS X0 hx (y := xm19) hown (mvT hZ (tw225 hw)) (mvT hZ (tw226 hw)) (mvT hZ (tw180 hw)) (mvT hZ (tw227 hw)) (by decide) (backOf (W := 1) (rm_Math_max_1 l Z a0 hw [] ci1 ci2 h0 n0 Z0 (by decide)) hZ (tw227 hw) (tw180 hw) (by decide) (by decide)) (g := (mkF m 3 #[.val cv4, .val cv1, .val cv2, .unset] [cv2, cv1, cv4])) rfl (by rw [hml]; rfl) (argsL := [cv1, cv2]) (rest := [cv4]) (lenOf pd_13 rfl) rfl (Nat.le_of_eq rfl) (hb hby d27_3) (fun _ _ => ⟨rfl, e0, (by decide : 0 + 0 ≤ _), (by decide : 0 + 0 ≤ _)⟩)
  dsimp only [Pt.U, Pt.locs, Pt.cells, Pt.slots] at X836 l836 y836 z836 st836 hQ836
  subst l836 y836 z836
  obtain ⟨rfl, N836q, eq836⟩ := hQ836
  have N837 := Fr.app N0 N836q
  refine Go.step (fun _ k => st836 _ (XS.iadd X836.here hx rfl (hb hby d27_6) rfl (XS.istoreN X836.here hx rfl (hb hby d27_7) rfl (l' := #[.val cv4, .val cv1, .val cv2, .val cv6]) rfl (XS.iconst X836.here hx rfl (hb hby d27_8) (XS.iloadN X836.here hx rfl (hb hby d27_9) rfl (XS.icmpNo X836.here hx rfl (hb hby d27_10) rfl (tlt (by decide)).2.1 (XS.iloadN X836.here hx rfl (hb hby d27_13) rfl (X836.ldcInt hx hown (mvT hZ (tw228 hw)) (g := (mkF m 14 #[.val cv4, .val cv1, .val cv2, .val cv6] [cv6])) rfl (hb hby d27_14) _ (XS.icmpNo X836.here hx rfl (hb hby d27_16) rfl (flt (by decide)).2.2.1 (XS.iloadN X836.here hx rfl (hb hby d27_19) rfl k)))))))))) ?_
  show Go p e below s _ _ _ T836 (mkF m 20 #[.val cv4, .val cv1, .val cv2, .val cv6] [cv6])
  exact Go.retI X836 hx hlk Bd.returns (hb hby d27_20) eq836 ⟨rfl, N837, rfl⟩ (by decide) (by decide)

theorem ef_Arrays_copyOf_6 (m : MethodId) (x0 : Addr) (x1 : Int32) (x2 : Addr) : entryFrame m #[(.ref x0), (.int x1), (.ref x2)] 4 = mkF m 0 #[vr x0, vi x1, vr x2, .unset] [] := by first | (simp [entryFrame, mkF, argsToLocals, Value.category]; done) | rfl
def Q_Arrays_copyOf_6 (Z : State) (uu39 : Addr) (moa : Addr) (uu40 : ClassId) (x744 : Addr) (x753 : Addr) (x779 : Addr) (x796 : Addr) (h0 : Heap) (n0 : Nat) (v : Option Value) (h : Heap) (L : List Loc) : Prop := ∃ (b843 : Addr) (k843 : ClassId), v = some (.ref b843) ∧ Fr n0 L ∧ Keep h0 h [] ∧ h0.size ≤ b843 ∧ Exa Z h b843 xs34 ∧ Arv Z h b843 k843 (.object xs39) ci6 [(.ref x744), (.ref x753), (.ref x779), (.ref x796), .null, .null] .null ∧ Ovr Z k843 xs39
set_option maxRecDepth 65536 in
set_option maxHeartbeats 40000000 in
theorem rm_Arrays_copyOf_6 (l : Launch) (Z : State) (a0 : Array Value) (hw : ∀ d ∈ tables_1, d.before a0 Z = true) (ws : List Jvm.Cond) (uu39 : Addr) (moa : Addr) (uu40 : ClassId) (x744 : Addr) (x753 : Addr) (x779 : Addr) (x796 : Addr) (h0 : Heap) (n0 : Nat) (Z0 : n0 ≤ h0.size) (M_moa : Mir Z xs34 moa) (V_b614_634_639_654_659_688_808 : Arv Z h0 uu39 uu40 (.object xs39) ci4 [(.ref x744), (.ref x753), (.ref x779), (.ref x796)] .null) (E_x796 : Exa Z h0 x796 xs17) (E_x779 : Exa Z h0 x779 xs17) (E_x753 : Exa Z h0 x753 xs17) (E_x744 : Exa Z h0 x744 xs17) :
    MetFree l xm22 (head1 (Jvm.Cond.code xm22 jdk_65_method_120_code 4 (some (.array (.object xs39))) :: ws) xr28) (fun a U => a = #[(.ref uu39), cv6, (.ref moa)] ∧ Z.Warmed39 U.vm ∧ U.heap = h0) (fun _ _ _ _ _ => True) (fun _ U o U' => ∃ v L, o = .returned v ∧ Q_Arrays_copyOf_6 Z uu39 moa uu40 x744 x753 x779 x796 h0 n0 v U'.heap L ∧ FrameEnd U o U' L xr28.cells xr28.slots) := by
  refine MetFree.of_bodySF (plainFor_of_name pn_12) hisR ?_
  intro p e s m args below meth c s₁ Bd hml0 hP hK
  obtain ⟨rfl, hZ, hh⟩ := hP
  have hx := Bd.exec
  have hby := Bd.bytes
  have hlk : meth.locks = false := BodyLoose.notSynchronized Bd
  have hml : c.maxLocals = 4 := hml0
  have hown : s.vm.findClass xs42 = some m.cls := findClass_of_methodNamed Bd.named
  have hnm := (name_of_methodNamed Bd.named Bd.method).1
  have X0 : Stand p l e xr28 s m #[(.ref uu39), cv6, (.ref moa)] below meth c s₁ [] 0 0 := Stand.of_body Bd
  have e0 : s₁.heap = h0 := by rw [← hh, Bd.state]; rfl
  have N0 := Fr.nil n0
  show Go p e below s (Q_Arrays_copyOf_6 Z uu39 moa uu40 x744 x753 x779 x796 h0 n0) xr28.cells xr28.slots s₁ (entryFrame m #[(.ref uu39), cv6, (.ref moa)] 4)
  refine Go.cast (ef_Arrays_copyOf_6 m uu39 ci6 moa) ?_
  show Go p e below s _ _ _ s₁ (mkF m 0 #[vr uu39, .val cv6, vr moa, .unset] [])
  refine Go.step (fun _ k => XS.aloadN X0.here hx rfl (hb hby d21_0) rfl rfl k) ?_
  show Go p e below s _ _ _ s₁ (mkF m 1 #[vr uu39, .val cv6, vr moa, .unset] [(.ref moa)])
  obtain ⟨T842, X842, e842, st842⟩ := own_ldcM X0 hx hZ hown (tw176 hw) e0 M_moa (g := (mkF m 1 #[vr uu39, .val cv6, vr moa, .unset] [(.ref moa)])) rfl (hb hby d21_1)
  refine Go.step (fun _ k => st842 _ (Jvm.RoadKit.acmp (g := (mkF m 3 #[vr uu39, .val cv6, vr moa, .unset] [(.ref moa), (.ref moa)])) X842 hx rfl rfl rfl (pc0 := 3) (pc' := 6) (same := true) rfl (hb hby d21_3) rfl (decide_eq_true rfl) (by decide) (by decide) (XS.iloadN X842.here hx rfl (hb hby d21_6) rfl k))) ?_
  show Go p e below s _ _ _ T842 (mkF m 7 #[vr uu39, .val cv6, vr moa, .unset] [cv6])
  obtain ⟨T843, h843, k843, X843, e843, E843, A843, D843, O843, st843⟩ := newRE X842 hx hZ hown (tw177 hw) (tw156 hw) e842 (g := (mkF m 7 #[vr uu39, .val cv6, vr moa, .unset] [cv6])) rfl (hb hby d21_7) rfl (by decide) (cap := 6) (by decide) (by decide) (by decide) (by decide) (ad := xs34) (by decide)
  obtain ⟨b843, g843⟩ : ∃ z, z = h0.size := ⟨_, rfl⟩
  rw [← g843] at A843 D843 st843
  have f844 : Arv Z h843 b843 k843 (.object xs39) ci6 [.null, .null, .null, .null, .null, .null] .null := (Arv.new A843 (by decide)).pad (pad_rep [] .null 6)
  refine Go.step (fun _ k => st843 _ (XS.goto X843.here hx rfl (pc0 := 10) (pc' := 24) rfl (hb hby d21_10) (by decide) (by decide) (XS.astoreN X843.here hx rfl (hb hby d21_24) rfl rfl (l' := #[vr uu39, .val cv6, vr moa, vr b843]) rfl (XS.aloadN X843.here hx rfl (hb hby d21_25) rfl rfl (XS.iconst X843.here hx rfl (hb hby d21_26) (XS.aloadN X843.here hx rfl (hb hby d21_27) rfl rfl (XS.iconst X843.here hx rfl (hb hby d21_28) (XS.aloadN X843.here hx rfl (hb hby d21_29) rfl rfl k)))))))) ?_
  show Go p e below s _ _ _ T843 (mkF m 30 #[vr uu39, .val cv6, vr moa, vr b843] [(.ref uu39), cv0, (.ref b843), cv0, (.ref uu39)])
  have f845 := (V_b614_634_639_654_659_688_808.ext E843)
  obtain ⟨cl846, Ar846, -, Sz846, Ng846, -, -⟩ := id f845
  have aln846 := X843.arraylength hx (by rw [e843]; exact Ar846.1) (State.isArrayOf_alike hZ.alike Ar846.2.1) (g := (mkF m 30 #[vr uu39, .val cv6, vr moa, vr b843] [(.ref uu39), cv0, (.ref b843), cv0, (.ref uu39)])) rfl rfl (hb hby d21_30)
  rw [len_of Sz846 Ng846] at aln846
  refine Go.step (fun _ k => aln846 _ (XS.iloadN X843.here hx rfl (hb hby d21_31) rfl k)) ?_
  show Go p e below s _ _ _ T843 (mkF m 32 #[vr uu39, .val cv6, vr moa, vr b843] [cv6, cv4, cv0, (.ref b843), cv0, (.ref uu39)])
  have f847 := (Nat.le_trans Z0 E843.1)
  obtain ⟨_, _, ⟨T848, L848, k848, n848⟩, -, X848, ⟨Lc848, hQ848, l848, y848, z848⟩, st848⟩ := Jvm.LawKit.callS X843 hx (y := xm17) hown (mvT hZ (tw178 hw)) (mvT hZ (tw179 hw)) (mvT hZ (tw180 hw)) (mvT hZ (tw181 hw)) (by decide) (backOf (W := 4) (rm_Math_min_0 l Z a0 hw [] ci4 ci6 h843 n0 f847 (by decide)) hZ (tw181 hw) (tw180 hw) (by decide) (by decide)) (g := (mkF m 32 #[vr uu39, .val cv6, vr moa, vr b843] [cv6, cv4, cv0, (.ref b843), cv0, (.ref uu39)])) rfl (by rw [hml]; rfl) (argsL := [cv4, cv6]) (rest := [cv0, (.ref b843), cv0, (.ref uu39)]) (lenOf pd_13 rfl) rfl (Nat.le_of_eq rfl) (hb hby d21_32) (fun _ _ => ⟨rfl, e843, (by decide : 1 + 0 ≤ _), (by decide : 6 + 0 ≤ _)⟩)
  dsimp only [Pt.U, Pt.locs, Pt.cells, Pt.slots] at X848 l848 y848 z848 st848 hQ848
  subst l848 y848 z848
  obtain ⟨rfl, N848q, eq848⟩ := hQ848
  have N849 := Fr.app N0 N848q
  refine Go.step (fun _ k => st848 _ k) ?_
  show Go p e below s _ _ _ T848 (mkF m 35 #[vr uu39, .val cv6, vr moa, vr b843] [cv4, cv0, (.ref b843), cv0, (.ref uu39)])
  have g851 := Nat.le_trans Z0 (Nat.le_of_eq g843.symm)
  obtain ⟨cl852, Ar852, qq852, -⟩ := id f844
  have f853 := (E_x796.ext E843)
  obtain ⟨cl854, Ar854, qq854, -⟩ := id f844
  have f855 := (E_x779.ext E843)
  obtain ⟨cl856, Ar856, qq856, -⟩ := id f844
  have f857 := (E_x753.ext E843)
  obtain ⟨cl858, Ar858, qq858, -⟩ := id f844
  have f859 := (E_x744.ext E843)
  obtain ⟨T850, h850, L850, X850, e850, N850, K850, V850, st850⟩ := cpA X848 hx hZ hown (tw182 hw) (tw185 hw) (tw183 hw) (tw184 hw) eq848 f845 f844 (us := [(.ref x744), (.ref x753), (.ref x779), (.ref x796)]) (Or.inr ⟨rfl, rfl, (And.intro (Sto.ofV Ar858 qq858 O843 (Ins.of_exa f859 (tw157 hw))) (And.intro (Sto.ofV Ar856 qq856 O843 (Ins.of_exa f857 (tw157 hw))) (And.intro (Sto.ofV Ar854 qq854 O843 (Ins.of_exa f855 (tw157 hw))) (And.intro (Sto.ofV Ar852 qq852 O843 (Ins.of_exa f853 (tw157 hw))) trivial))))⟩) (by decide) (by decide) (by decide) (by decide) (by decide) rfl (Nat.le_of_ble_eq_true rfl) N849 g851 (g := (mkF m 35 #[vr uu39, .val cv6, vr moa, vr b843] [cv4, cv0, (.ref b843), cv0, (.ref uu39)])) rfl (by rw [hml]; rfl) rfl (hb hby d21_35) (by decide) (W := 0) (Nat.le_of_eq rfl) (by decide)
  have f860 : Arv Z h850 b843 k843 (.object xs39) ci6 [(.ref x744), (.ref x753), (.ref x779), (.ref x796), .null, .null] .null := V850
  refine Go.step (fun _ k => st850 _ (XS.aloadN X850.here hx rfl (hb hby d21_38) rfl rfl k)) ?_
  show Go p e below s _ _ _ T850 (mkF m 39 #[vr uu39, .val cv6, vr moa, vr b843] [(.ref b843)])
  have z861 := Nat.le_trans (Nat.le_refl _) (Nat.le_of_eq g843.symm)
  have f862 := (((Keep.refl h0 []).ext E843).trans K850 (allS (Or.inr z861) all0))
  have f863 := (D843.keep K850)
  have f864 := (Nat.le_trans (Nat.le_trans (Nat.le_refl _) E843.1) K850.1)
  exact Go.retA X850 hx hlk Bd.returns rfl rfl (hb hby d21_39) e850 ⟨b843, k843, rfl, N850, f862, z861, f863, f860, O843⟩ (by decide) (by decide)

theorem ef_Arrays_copyOf_5 (m : MethodId) (x0 : Addr) (x1 : Int32) : entryFrame m #[(.ref x0), (.int x1)] 2 = mkF m 0 #[vr x0, vi x1] [] := by first | (simp [entryFrame, mkF, argsToLocals, Value.category]; done) | rfl
def Q_Arrays_copyOf_5 (Z : State) (uu39 : Addr) (moa : Addr) (uu40 : ClassId) (x744 : Addr) (x753 : Addr) (x779 : Addr) (x796 : Addr) (h0 : Heap) (n0 : Nat) (v : Option Value) (h : Heap) (L : List Loc) : Prop := ∃ (uu41 : Addr) (uu42 : ClassId), v = some (.ref uu41) ∧ Fr n0 L ∧ Keep h0 h [] ∧ h0.size ≤ uu41 ∧ Exa Z h uu41 xs34 ∧ Arv Z h uu41 uu42 (.object xs39) ci6 [(.ref x744), (.ref x753), (.ref x779), (.ref x796), .null, .null] .null ∧ Ovr Z uu42 xs39
set_option maxRecDepth 65536 in
set_option maxHeartbeats 40000000 in
theorem rm_Arrays_copyOf_5 (l : Launch) (Z : State) (a0 : Array Value) (hw : ∀ d ∈ tables_1, d.before a0 Z = true) (ws : List Jvm.Cond) (uu39 : Addr) (moa : Addr) (uu40 : ClassId) (x744 : Addr) (x753 : Addr) (x779 : Addr) (x796 : Addr) (h0 : Heap) (n0 : Nat) (Z0 : n0 ≤ h0.size) (E_b614_634_639_654_659_688_808 : Exa Z h0 uu39 xs34) (M_moa : Mir Z xs34 moa) (V_b614_634_639_654_659_688_808 : Arv Z h0 uu39 uu40 (.object xs39) ci4 [(.ref x744), (.ref x753), (.ref x779), (.ref x796)] .null) (E_x796 : Exa Z h0 x796 xs17) (E_x779 : Exa Z h0 x779 xs17) (E_x753 : Exa Z h0 x753 xs17) (E_x744 : Exa Z h0 x744 xs17) :
    MetFree l xm20 (head1 (Jvm.Cond.code xm20 jdk_65_method_119_code 2 (some (.array (.object xs39))) :: ws) xr29) (fun a U => a = #[(.ref uu39), cv6] ∧ Z.Warmed39 U.vm ∧ U.heap = h0) (fun _ _ _ _ _ => True) (fun _ U o U' => ∃ v L, o = .returned v ∧ Q_Arrays_copyOf_5 Z uu39 moa uu40 x744 x753 x779 x796 h0 n0 v U'.heap L ∧ FrameEnd U o U' L xr29.cells xr29.slots) := by
  refine MetFree.of_bodySF (plainFor_of_name pn_12) hisR ?_
  intro p e s m args below meth c s₁ Bd hml0 hP hK
  obtain ⟨rfl, hZ, hh⟩ := hP
  have hx := Bd.exec
  have hby := Bd.bytes
  have hlk : meth.locks = false := BodyLoose.notSynchronized Bd
  have hml : c.maxLocals = 2 := hml0
  have hown : s.vm.findClass xs42 = some m.cls := findClass_of_methodNamed Bd.named
  have hnm := (name_of_methodNamed Bd.named Bd.method).1
  have X0 : Stand p l e xr29 s m #[(.ref uu39), cv6] below meth c s₁ [] 0 0 := Stand.of_body Bd
  have e0 : s₁.heap = h0 := by rw [← hh, Bd.state]; rfl
  have N0 := Fr.nil n0
  show Go p e below s (Q_Arrays_copyOf_5 Z uu39 moa uu40 x744 x753 x779 x796 h0 n0) xr29.cells xr29.slots s₁ (entryFrame m #[(.ref uu39), cv6] 2)
  refine Go.cast (ef_Arrays_copyOf_5 m uu39 ci6) ?_
  show Go p e below s _ _ _ s₁ (mkF m 0 #[vr uu39, .val cv6] [])
  refine Go.step (fun _ k => XS.aloadN X0.here hx rfl (hb hby d29_0) rfl rfl (XS.iloadN X0.here hx rfl (hb hby d29_1) rfl (XS.aloadN X0.here hx rfl (hb hby d29_2) rfl rfl k))) ?_
  show Go p e below s _ _ _ s₁ (mkF m 3 #[vr uu39, .val cv6] [(.ref uu39), cv6, (.ref uu39)])
  obtain ⟨T841, X841, e841, st841⟩ := own_gcV X0 hx hZ hown (tw232 hw) (tw161 hw) (tw233 hw) (tw164 hw) (tw167 hw) e0 E_b614_634_639_654_659_688_808 M_moa (g := (mkF m 3 #[vr uu39, .val cv6] [(.ref uu39), cv6, (.ref uu39)])) rfl (by rw [hml]; rfl) rfl (hb hby d29_3) (by decide) (W := 2) (Nat.le_of_eq rfl) (by decide)
  refine Go.step (fun _ k => st841 _ k) ?_
  show Go p e below s _ _ _ T841 (mkF m 6 #[vr uu39, .val cv6] [(.ref moa), cv6, (.ref uu39)])
  obtain ⟨_, _, ⟨T865, L865, k865, n865⟩, -, X865, ⟨Lc865, hQ865, l865, y865, z865⟩, st865⟩ := Jvm.LawKit.callS X841 hx (y := xm22) hown (mvT hZ (tw234 hw)) (mvT hZ (tw173 hw)) (mvT hZ (tw174 hw)) (mvT hZ (tw175 hw)) (by decide) (backOf (W := 0) (rm_Arrays_copyOf_6 l Z a0 hw [] uu39 moa uu40 x744 x753 x779 x796 h0 n0 Z0 M_moa V_b614_634_639_654_659_688_808 E_x796 E_x779 E_x753 E_x744) hZ (tw175 hw) (tw174 hw) (by decide) (by decide)) (g := (mkF m 6 #[vr uu39, .val cv6] [(.ref moa), cv6, (.ref uu39)])) rfl (by rw [hml]; rfl) (argsL := [(.ref uu39), cv6, (.ref moa)]) (rest := []) (lenOf pd_14 rfl) rfl (Nat.le_of_eq rfl) (hb hby d29_6) (fun _ _ => ⟨rfl, e841, (by decide : 0 + 1 ≤ _), (by decide : 0 + 6 ≤ _)⟩)
  dsimp only [Pt.U, Pt.locs, Pt.cells, Pt.slots] at X865 l865 y865 z865 st865 hQ865
  subst l865 y865 z865
  obtain ⟨uu41, uu42, rfl, N865q, K865, P865_0, P865_1, P865_2, P865_3⟩ := hQ865
  have N866 := Fr.app N0 N865q
  refine Go.step (fun _ k => st865 _ k) ?_
  show Go p e below s _ _ _ T865 (mkF m 9 #[vr uu39, .val cv6] [(.ref uu41)])
  have f867 := ((Keep.refl h0 []).trans K865 all0)
  have z868 := Nat.le_trans (Nat.le_refl _) P865_0
  have f869 := (Nat.le_trans (Nat.le_refl _) K865.1)
  exact Go.retA X865 hx hlk Bd.returns rfl rfl (hb hby d29_9) rfl ⟨uu41, uu42, rfl, N866, f867, z868, P865_1, P865_2, P865_3⟩ (by decide) (by decide)

theorem ef_ArrayList_grow_5 (m : MethodId) (x0 : Addr) (x1 : Int32) : entryFrame m #[(.ref x0), (.int x1)] 4 = mkF m 0 #[vr x0, vi x1, .unset, .unset] [] := by first | (simp [entryFrame, mkF, argsToLocals, Value.category]; done) | rfl
def Q_ArrayList_grow_5 (Z : State) (b738 : Addr) (uu39 : Addr) (uu40 : ClassId) (x744 : Addr) (x753 : Addr) (x779 : Addr) (x796 : Addr) (moa : Addr) (h0 : Heap) (n0 : Nat) (v : Option Value) (h : Heap) (L : List Loc) : Prop := ∃ (uu43 : Addr) (uu44 : ClassId), v = some (.ref uu43) ∧ Fr n0 L ∧ Keep h0 h [b738] ∧ Fld Z h b738 xs35 "elementData" xs34 (.ref uu43) ∧ Fld Z h b738 xs29 "modCount" "I" cv3 ∧ Fld Z h b738 xs35 "size" "I" cv4 ∧ h0.size ≤ uu43 ∧ Exa Z h uu43 xs34 ∧ Arv Z h uu43 uu44 (.object xs39) ci6 [(.ref x744), (.ref x753), (.ref x779), (.ref x796), .null, .null] .null ∧ Ovr Z uu44 xs39
set_option maxRecDepth 65536 in
set_option maxHeartbeats 40000000 in
theorem rm_ArrayList_grow_5 (l : Launch) (Z : State) (a0 : Array Value) (hw : ∀ d ∈ tables_1, d.before a0 Z = true) (ws : List Jvm.Cond) (b738 : Addr) (uu39 : Addr) (uu40 : ClassId) (x744 : Addr) (x753 : Addr) (x779 : Addr) (x796 : Addr) (moa : Addr) (h0 : Heap) (n0 : Nat) (Z0 : n0 ≤ h0.size) (F_elementData_b738 : Fld Z h0 b738 xs35 "elementData" xs34 (.ref uu39)) (V_b614_634_639_654_659_688_808 : Arv Z h0 uu39 uu40 (.object xs39) ci4 [(.ref x744), (.ref x753), (.ref x779), (.ref x796)] .null) (E_b614_634_639_654_659_688_808 : Exa Z h0 uu39 xs34) (M_moa : Mir Z xs34 moa) (E_x796 : Exa Z h0 x796 xs17) (E_x779 : Exa Z h0 x779 xs17) (E_x753 : Exa Z h0 x753 xs17) (E_x744 : Exa Z h0 x744 xs17) (E_b738 : Exa Z h0 b738 xs35) (g_b738 : n0 ≤ b738) (F_modCount_b738 : Fld Z h0 b738 xs29 "modCount" "I" cv3) (F_size_b738 : Fld Z h0 b738 xs35 "size" "I" cv4) :
    MetFree l xm26 (head1 (Jvm.Cond.code xm26 jdk_38_method_6_code 4 (some (.array (.object xs39))) :: ws) xr30) (fun a U => a = #[(.ref b738), cv5] ∧ Z.Warmed39 U.vm ∧ U.heap = h0) (fun _ _ _ _ _ => True) (fun _ U o U' => ∃ v L, o = .returned v ∧ Q_ArrayList_grow_5 Z b738 uu39 uu40 x744 x753 x779 x796 moa h0 n0 v U'.heap L ∧ FrameEnd U o U' L xr30.cells xr30.slots) := by
  refine MetFree.of_bodySF (plainFor_of_name pn_13) hisR ?_
  intro p e s m args below meth c s₁ Bd hml0 hP hK
  obtain ⟨rfl, hZ, hh⟩ := hP
  have hx := Bd.exec
  have hby := Bd.bytes
  have hlk : meth.locks = false := BodyLoose.notSynchronized Bd
  have hml : c.maxLocals = 4 := hml0
  have hown : s.vm.findClass xs35 = some m.cls := findClass_of_methodNamed Bd.named
  have hnm := (name_of_methodNamed Bd.named Bd.method).1
  have X0 : Stand p l e xr30 s m #[(.ref b738), cv5] below meth c s₁ [] 0 0 := Stand.of_body Bd
  have e0 : s₁.heap = h0 := by rw [← hh, Bd.state]; rfl
  have N0 := Fr.nil n0
  show Go p e below s (Q_ArrayList_grow_5 Z b738 uu39 uu40 x744 x753 x779 x796 moa h0 n0) xr30.cells xr30.slots s₁ (entryFrame m #[(.ref b738), cv5] 4)
  refine Go.cast (ef_ArrayList_grow_5 m b738 ci5) ?_
  show Go p e below s _ _ _ s₁ (mkF m 0 #[vr b738, .val cv5, .unset, .unset] [])
  refine Go.step (fun _ k => XS.aloadN X0.here hx rfl (hb hby d26_0) rfl rfl k) ?_
  show Go p e below s _ _ _ s₁ (mkF m 1 #[vr b738, .val cv5, .unset, .unset] [(.ref b738)])
  obtain ⟨T831, X831, e831, st831⟩ := getF X0 hx hZ hown (host := "") (Or.inl (tw186 hw)) Via.refl e0 F_elementData_b738 (g := (mkF m 1 #[vr b738, .val cv5, .unset, .unset] [(.ref b738)])) rfl rfl (hb hby d26_1)
  refine Go.step (fun _ k => st831 _ k) ?_
  show Go p e below s _ _ _ T831 (mkF m 4 #[vr b738, .val cv5, .unset, .unset] [(.ref uu39)])
  obtain ⟨cl832, Ar832, -, Sz832, Ng832, -, -⟩ := id V_b614_634_639_654_659_688_808
  have aln832 := X831.arraylength hx (by rw [e831]; exact Ar832.1) (State.isArrayOf_alike hZ.alike Ar832.2.1) (g := (mkF m 4 #[vr b738, .val cv5, .unset, .unset] [(.ref uu39)])) rfl rfl (hb hby d26_4)
  rw [len_of Sz832 Ng832] at aln832
  refine Go.step (fun _ k => aln832 _ (XS.istoreN X831.here hx rfl (hb hby d26_5) rfl (l' := #[vr b738, .val cv5, .val cv4, .unset]) rfl (XS.iloadN X831.here hx rfl (hb hby d26_6) rfl (XS.ifYes X831.here hx rfl (pc0 := 7) (pc' := 20) rfl (hb hby d26_7) rfl ((if0 _ _).trans (tlt (by decide)).2.2.1) (by decide) (by decide) (XS.iloadN X831.here hx rfl (hb hby d26_20) rfl (XS.iloadN X831.here hx rfl (hb hby d26_21) rfl (XS.iloadN X831.here hx rfl (hb hby d26_22) rfl (XS.isub X831.here hx rfl (hb hby d26_23) rfl (XS.iloadN X831.here hx rfl (hb hby d26_24) rfl (XS.iconst X831.here hx rfl (hb hby d26_25) k)))))))))) ?_
  show Go p e below s _ _ _ T831 (mkF m 26 #[vr b738, .val cv5, .val cv4, .unset] [cv1, cv4, cv1, cv4])
  refine Go.step (fun _ k => XS.ishr X831.here hx rfl (hb hby d26_26) rfl k) ?_
  show Go p e below s _ _ _ T831 (mkF m 27 #[vr b738, .val cv5, .val cv4, .unset] [cv2, cv1, cv4])
  obtain ⟨_, _, ⟨T838, L838, k838, n838⟩, -, X838, ⟨Lc838, hQ838, l838, y838, z838⟩, st838⟩ := Jvm.LawKit.callS X831 hx (y := xm1) hown (mvT hZ (tw221 hw)) (mvT hZ (tw222 hw)) (mvT hZ (tw223 hw)) (mvT hZ (tw224 hw)) (by decide) (backOf (W := 0) (rm_ArraysSupport_newLength_2 l Z a0 hw []  h0 n0 Z0) hZ (tw224 hw) (tw223 hw) (by decide) (by decide)) (g := (mkF m 27 #[vr b738, .val cv5, .val cv4, .unset] [cv2, cv1, cv4])) rfl (by rw [hml]; rfl) (argsL := [cv4, cv1, cv2]) (rest := []) (lenOf pd_17 rfl) rfl (Nat.le_of_eq rfl) (hb hby d26_27) (fun _ _ => ⟨rfl, e831, (by decide : 0 + 0 ≤ _), (by decide : 0 + 0 ≤ _)⟩)
  dsimp only [Pt.U, Pt.locs, Pt.cells, Pt.slots] at X838 l838 y838 z838 st838 hQ838
  subst l838 y838 z838
  obtain ⟨rfl, N838q, eq838⟩ := hQ838
  have N839 := Fr.app N0 N838q
  refine Go.step (fun _ k => st838 _ (XS.istoreN X838.here hx rfl (hb hby d26_30) rfl (l' := #[vr b738, .val cv5, .val cv4, .val cv6]) rfl (XS.aloadN X838.here hx rfl (hb hby d26_31) rfl rfl (XS.aloadN X838.here hx rfl (hb hby d26_32) rfl rfl k)))) ?_
  show Go p e below s _ _ _ T838 (mkF m 33 #[vr b738, .val cv5, .val cv4, .val cv6] [(.ref b738), (.ref b738)])
  obtain ⟨T840, X840, e840, st840⟩ := getF X838 hx hZ hown (host := "") (Or.inl (tw186 hw)) Via.refl eq838 F_elementData_b738 (g := (mkF m 33 #[vr b738, .val cv5, .val cv4, .val cv6] [(.ref b738), (.ref b738)])) rfl rfl (hb hby d26_33)
  refine Go.step (fun _ k => st840 _ (XS.iloadN X840.here hx rfl (hb hby d26_36) rfl k)) ?_
  show Go p e below s _ _ _ T840 (mkF m 37 #[vr b738, .val cv5, .val cv4, .val cv6] [cv6, (.ref uu39), (.ref b738)])
  obtain ⟨_, _, ⟨T870, L870, k870, n870⟩, -, X870, ⟨Lc870, hQ870, l870, y870, z870⟩, st870⟩ := Jvm.LawKit.callS X840 hx (y := xm20) hown (mvT hZ (tw229 hw)) (mvT hZ (tw230 hw)) (mvT hZ (tw174 hw)) (mvT hZ (tw231 hw)) (by decide) (backOf (W := 1) (rm_Arrays_copyOf_5 l Z a0 hw [] uu39 moa uu40 x744 x753 x779 x796 h0 n0 Z0 E_b614_634_639_654_659_688_808 M_moa V_b614_634_639_654_659_688_808 E_x796 E_x779 E_x753 E_x744) hZ (tw231 hw) (tw174 hw) (by decide) (by decide)) (g := (mkF m 37 #[vr b738, .val cv5, .val cv4, .val cv6] [cv6, (.ref uu39), (.ref b738)])) rfl (by rw [hml]; rfl) (argsL := [(.ref uu39), cv6]) (rest := [(.ref b738)]) (lenOf pd_18 rfl) rfl (Nat.le_of_eq rfl) (hb hby d26_37) (fun _ _ => ⟨rfl, e840, (by decide : 0 + 1 ≤ _), (by decide : 0 + 6 ≤ _)⟩)
  dsimp only [Pt.U, Pt.locs, Pt.cells, Pt.slots] at X870 l870 y870 z870 st870 hQ870
  subst l870 y870 z870
  obtain ⟨uu43, uu44, rfl, N870q, K870, P870_0, P870_1, P870_2, P870_3⟩ := hQ870
  have N871 := Fr.app N839 N870q
  refine Go.step (fun _ k => st870 _ (XS.dupX1 X870.here hx rfl (hb hby d26_40) rfl rfl rfl k)) ?_
  show Go p e below s _ _ _ T870 (mkF m 41 #[vr b738, .val cv5, .val cv4, .val cv6] [(.ref uu43), (.ref b738), (.ref uu43)])
  have f872 := (F_elementData_b738.keep K870 nin0)
  have f873 := (E_b738.keep K870)
  obtain ⟨T874, h874, X874, e874, W874, st874⟩ := putF X870 hx hZ hown (host := "") (Or.inl (tw186 hw)) Via.refl rfl f872 f873 (Or.inl (tw187 hw)) (tw50 hw) (ty := (.array (.object xs39))) (by decide) rfl rfl (g := (mkF m 41 #[vr b738, .val cv5, .val cv4, .val cv6] [(.ref uu43), (.ref b738), (.ref uu43)])) rfl rfl (hb hby d26_41)
  have f875 := f872.same W874
  have N876 := Fr.snoc X874 N871 g_b738
  refine Go.step (fun _ k => st874 _ k) ?_
  show Go p e below s _ _ _ T874 (mkF m 44 #[vr b738, .val cv5, .val cv4, .val cv6] [(.ref uu43)])
  have f877 := (((Keep.refl h0 [b738]).trans K870 all0).wr W874 (Or.inl (List.mem_of_getElem? (i := 0) rfl)))
  have f878 := ((F_modCount_b738.keep K870 nin0).other W874 (Or.inr (slot_ne (Or.inl (tw143 hw)) (Or.inl (tw187 hw)) (by decide) (t := .int) (t' := (.array (.object xs39))) (by decide) (by decide))))
  have f879 := ((F_size_b738.keep K870 nin0).other W874 (Or.inr (slot_ne (Or.inl (tw159 hw)) (Or.inl (tw187 hw)) (by decide) (t := .int) (t' := (.array (.object xs39))) (by decide) (by decide))))
  have z880 := Nat.le_trans (Nat.le_refl _) P870_0
  have f881 := (P870_1.wr W874)
  have ne882 : b738 ≠ uu43 := Nat.ne_of_lt (Nat.lt_of_lt_of_le E_b738.lt P870_0)
  have f883 := (P870_2.other W874 (Ne.symm ne882))
  have f884 := (Nat.le_trans (Nat.le_trans (Nat.le_refl _) K870.1) (Keep.of_wr W874).1)
  exact Go.retA X874 hx hlk Bd.returns rfl rfl (hb hby d26_44) e874 ⟨uu43, uu44, rfl, N876, f877, f875, f878, f879, z880, f881, f883, P870_3⟩ (by decide) (by decide)

theorem ef_ArrayList_grow_4 (m : MethodId) (x0 : Addr) : entryFrame m #[(.ref x0)] 1 = mkF m 0 #[vr x0] [] := by first | (simp [entryFrame, mkF, argsToLocals, Value.category]; done) | rfl
def Q_ArrayList_grow_4 (Z : State) (b738 : Addr) (uu39 : Addr) (uu40 : ClassId) (x744 : Addr) (x753 : Addr) (x779 : Addr) (x796 : Addr) (moa : Addr) (h0 : Heap) (n0 : Nat) (v : Option Value) (h : Heap) (L : List Loc) : Prop := ∃ (uu45 : Addr) (uu46 : ClassId), v = some (.ref uu45) ∧ Fr n0 L ∧ Keep h0 h [b738] ∧ Fld Z h b738 xs35 "size" "I" cv4 ∧ Fld Z h b738 xs35 "elementData" xs34 (.ref uu45) ∧ Fld Z h b738 xs29 "modCount" "I" cv3 ∧ h0.size ≤ uu45 ∧ Exa Z h uu45 xs34 ∧ Arv Z h uu45 uu46 (.object xs39) ci6 [(.ref x744), (.ref x753), (.ref x779), (.ref x796), .null, .null] .null ∧ Ovr Z uu46 xs39
set_option maxRecDepth 65536 in
set_option maxHeartbeats 40000000 in
theorem rm_ArrayList_grow_4 (l : Launch) (Z : State) (a0 : Array Value) (hw : ∀ d ∈ tables_1, d.before a0 Z = true) (ws : List Jvm.Cond) (b738 : Addr) (uu39 : Addr) (uu40 : ClassId) (x744 : Addr) (x753 : Addr) (x779 : Addr) (x796 : Addr) (moa : Addr) (h0 : Heap) (n0 : Nat) (Z0 : n0 ≤ h0.size) (F_size_b738 : Fld Z h0 b738 xs35 "size" "I" cv4) (F_elementData_b738 : Fld Z h0 b738 xs35 "elementData" xs34 (.ref uu39)) (V_b614_634_639_654_659_688_808 : Arv Z h0 uu39 uu40 (.object xs39) ci4 [(.ref x744), (.ref x753), (.ref x779), (.ref x796)] .null) (E_b614_634_639_654_659_688_808 : Exa Z h0 uu39 xs34) (M_moa : Mir Z xs34 moa) (E_x796 : Exa Z h0 x796 xs17) (E_x779 : Exa Z h0 x779 xs17) (E_x753 : Exa Z h0 x753 xs17) (E_x744 : Exa Z h0 x744 xs17) (E_b738 : Exa Z h0 b738 xs35) (g_b738 : n0 ≤ b738) (F_modCount_b738 : Fld Z h0 b738 xs29 "modCount" "I" cv3) :
    MetFree l xm27 (head1 (Jvm.Cond.code xm27 jdk_38_method_7_code 1 (some (.array (.object xs39))) :: ws) xr31) (fun a U => a = #[(.ref b738)] ∧ Z.Warmed39 U.vm ∧ U.heap = h0) (fun _ _ _ _ _ => True) (fun _ U o U' => ∃ v L, o = .returned v ∧ Q_ArrayList_grow_4 Z b738 uu39 uu40 x744 x753 x779 x796 moa h0 n0 v U'.heap L ∧ FrameEnd U o U' L xr31.cells xr31.slots) := by
  refine MetFree.of_bodySF (plainFor_of_name pn_13) hisR ?_
  intro p e s m args below meth c s₁ Bd hml0 hP hK
  obtain ⟨rfl, hZ, hh⟩ := hP
  have hx := Bd.exec
  have hby := Bd.bytes
  have hlk : meth.locks = false := BodyLoose.notSynchronized Bd
  have hml : c.maxLocals = 1 := hml0
  have hown : s.vm.findClass xs35 = some m.cls := findClass_of_methodNamed Bd.named
  have hnm := (name_of_methodNamed Bd.named Bd.method).1
  have X0 : Stand p l e xr31 s m #[(.ref b738)] below meth c s₁ [] 0 0 := Stand.of_body Bd
  have e0 : s₁.heap = h0 := by rw [← hh, Bd.state]; rfl
  have N0 := Fr.nil n0
  show Go p e below s (Q_ArrayList_grow_4 Z b738 uu39 uu40 x744 x753 x779 x796 moa h0 n0) xr31.cells xr31.slots s₁ (entryFrame m #[(.ref b738)] 1)
  refine Go.cast (ef_ArrayList_grow_4 m b738) ?_
  show Go p e below s _ _ _ s₁ (mkF m 0 #[vr b738] [])
  refine Go.step (fun _ k => XS.aloadN X0.here hx rfl (hb hby d25_0) rfl rfl (XS.aloadN X0.here hx rfl (hb hby d25_1) rfl rfl k)) ?_
  show Go p e below s _ _ _ s₁ (mkF m 2 #[vr b738] [(.ref b738), (.ref b738)])
  obtain ⟨T830, X830, e830, st830⟩ := getF X0 hx hZ hown (host := "") (Or.inl (tw158 hw)) Via.refl e0 F_size_b738 (g := (mkF m 2 #[vr b738] [(.ref b738), (.ref b738)])) rfl rfl (hb hby d25_2)
  refine Go.step (fun _ k => st830 _ (XS.iconst X830.here hx rfl (hb hby d25_5) (XS.iadd X830.here hx rfl (hb hby d25_6) rfl k))) ?_
  show Go p e below s _ _ _ T830 (mkF m 7 #[vr b738] [cv5, (.ref b738)])
  obtain ⟨cq885, q885, q885'⟩ := E_b738.cell
  obtain ⟨_, _, ⟨T885, L885, k885, n885⟩, -, X885, ⟨Lc885, hQ885, l885, y885, z885⟩, st885⟩ := X830.privateBack hx (y := xm26) hown (mvT hZ (tw216 hw)) (mvT hZ (tw217 hw)) (mvT hZ (tw219 hw)) (Cond.privateMethod_at (mvP hZ (tw218 hw) (args := #[]))) (mvT hZ (tw220 hw)) (by decide) (backOf (W := 0) (rm_ArrayList_grow_5 l Z a0 hw [] b738 uu39 uu40 x744 x753 x779 x796 moa h0 n0 Z0 F_elementData_b738 V_b614_634_639_654_659_688_808 E_b614_634_639_654_659_688_808 M_moa E_x796 E_x779 E_x753 E_x744 E_b738 g_b738 F_modCount_b738 F_size_b738) hZ (tw220 hw) (tw51 hw) (by decide) (by decide)) (g := (mkF m 7 #[vr b738] [cv5, (.ref b738)])) rfl (by rw [hml]; rfl) (Steps.refl _) (a := b738) (by rw [e830]; exact q885) q885' (argsL := [cv5]) (rest := []) (lenOf pd_19 rfl) rfl (Nat.le_of_eq rfl) (hb hby d25_7) (fun _ _ => ⟨rfl, e830, (by decide : 0 + 1 ≤ _), (by decide : 0 + 6 ≤ _)⟩)
  dsimp only [Pt.U, Pt.locs, Pt.cells, Pt.slots] at X885 l885 y885 z885 st885 hQ885
  subst l885 y885 z885
  obtain ⟨uu45, uu46, rfl, N885q, K885, P885_0, P885_1, P885_2, P885_3, P885_4, P885_5, P885_6⟩ := hQ885
  have N886 := Fr.app N0 N885q
  refine Go.step (fun _ k => st885.trans k) ?_
  show Go p e below s _ _ _ T885 (mkF m 10 #[vr b738] [(.ref uu45)])
  have f887 := ((Keep.refl h0 [b738]).trans K885 (allS (Or.inl (List.mem_of_getElem? (i := 0) rfl)) all0))
  have z888 := Nat.le_trans (Nat.le_refl _) P885_3
  have f889 := (Nat.le_trans (Nat.le_refl _) K885.1)
  exact Go.retA X885 hx hlk Bd.returns rfl rfl (hb hby d25_10) rfl ⟨uu45, uu46, rfl, N886, f887, P885_2, P885_0, P885_1, z888, P885_4, P885_5, P885_6⟩ (by decide) (by decide)

theorem ef_ArrayList_add_5 (m : MethodId) (x0 : Addr) (x1 : Addr) (x2 : Addr) (x3 : Int32) : entryFrame m #[(.ref x0), (.ref x1), (.ref x2), (.int x3)] 4 = mkF m 0 #[vr x0, vr x1, vr x2, vi x3] [] := by first | (simp [entryFrame, mkF, argsToLocals, Value.category]; done) | rfl
def Q_ArrayList_add_5 (Z : State) (b738 : Addr) (x814 : Addr) (uu39 : Addr) (uu40 : ClassId) (x744 : Addr) (x753 : Addr) (x779 : Addr) (x796 : Addr) (moa : Addr) (h0 : Heap) (n0 : Nat) (v : Option Value) (h : Heap) (L : List Loc) : Prop := ∃ (uu47 : Addr) (uu48 : ClassId), v = none ∧ Fr n0 L ∧ Keep h0 h [b738] ∧ Fld Z h b738 xs35 "size" "I" cv5 ∧ Fld Z h b738 xs35 "elementData" xs34 (.ref uu47) ∧ Fld Z h b738 xs29 "modCount" "I" cv3 ∧ h0.size ≤ uu47 ∧ Exa Z h uu47 xs34 ∧ Arv Z h uu47 uu48 (.object xs39) ci6 [(.ref x744), (.ref x753), (.ref x779), (.ref x796), (.ref x814), .null] .null ∧ Ovr Z uu48 xs39
set_option maxRecDepth 65536 in
set_option maxHeartbeats 40000000 in
theorem rm_ArrayList_add_5 (l : Launch) (Z : State) (a0 : Array Value) (hw : ∀ d ∈ tables_1, d.before a0 Z = true) (ws : List Jvm.Cond) (b738 : Addr) (x814 : Addr) (uu39 : Addr) (uu40 : ClassId) (x744 : Addr) (x753 : Addr) (x779 : Addr) (x796 : Addr) (moa : Addr) (h0 : Heap) (n0 : Nat) (Z0 : n0 ≤ h0.size) (V_b614_634_639_654_659_688_808 : Arv Z h0 uu39 uu40 (.object xs39) ci4 [(.ref x744), (.ref x753), (.ref x779), (.ref x796)] .null) (F_size_b738 : Fld Z h0 b738 xs35 "size" "I" cv4) (F_elementData_b738 : Fld Z h0 b738 xs35 "elementData" xs34 (.ref uu39)) (E_b614_634_639_654_659_688_808 : Exa Z h0 uu39 xs34) (M_moa : Mir Z xs34 moa) (E_x796 : Exa Z h0 x796 xs17) (E_x779 : Exa Z h0 x779 xs17) (E_x753 : Exa Z h0 x753 xs17) (E_x744 : Exa Z h0 x744 xs17) (E_b738 : Exa Z h0 b738 xs35) (g_b738 : n0 ≤ b738) (F_modCount_b738 : Fld Z h0 b738 xs29 "modCount" "I" cv3) (E_x814 : Exa Z h0 x814 xs17) :
    MetFree l xm31 (head1 (Jvm.Cond.code xm31 jdk_38_method_24_code 4 none :: ws) xr32) (fun a U => a = #[(.ref b738), (.ref x814), (.ref uu39), cv4] ∧ Z.Warmed39 U.vm ∧ U.heap = h0) (fun _ _ _ _ _ => True) (fun _ U o U' => ∃ v L, o = .returned v ∧ Q_ArrayList_add_5 Z b738 x814 uu39 uu40 x744 x753 x779 x796 moa h0 n0 v U'.heap L ∧ FrameEnd U o U' L xr32.cells xr32.slots) := by
  refine MetFree.of_bodySF (plainFor_of_name pn_13) hisR ?_
  intro p e s m args below meth c s₁ Bd hml0 hP hK
  obtain ⟨rfl, hZ, hh⟩ := hP
  have hx := Bd.exec
  have hby := Bd.bytes
  have hlk : meth.locks = false := BodyLoose.notSynchronized Bd
  have hml : c.maxLocals = 4 := hml0
  have hown : s.vm.findClass xs35 = some m.cls := findClass_of_methodNamed Bd.named
  have hnm := (name_of_methodNamed Bd.named Bd.method).1
  have X0 : Stand p l e xr32 s m #[(.ref b738), (.ref x814), (.ref uu39), cv4] below meth c s₁ [] 0 0 := Stand.of_body Bd
  have e0 : s₁.heap = h0 := by rw [← hh, Bd.state]; rfl
  have N0 := Fr.nil n0
  show Go p e below s (Q_ArrayList_add_5 Z b738 x814 uu39 uu40 x744 x753 x779 x796 moa h0 n0) xr32.cells xr32.slots s₁ (entryFrame m #[(.ref b738), (.ref x814), (.ref uu39), cv4] 4)
  refine Go.cast (ef_ArrayList_add_5 m b738 x814 uu39 ci4) ?_
  show Go p e below s _ _ _ s₁ (mkF m 0 #[vr b738, vr x814, vr uu39, .val cv4] [])
  refine Go.step (fun _ k => XS.iloadN X0.here hx rfl (hb hby d24_0) rfl (XS.aloadN X0.here hx rfl (hb hby d24_1) rfl rfl k)) ?_
  show Go p e below s _ _ _ s₁ (mkF m 2 #[vr b738, vr x814, vr uu39, .val cv4] [(.ref uu39), cv4])
  obtain ⟨cl829, Ar829, -, Sz829, Ng829, -, -⟩ := id V_b614_634_639_654_659_688_808
  have aln829 := X0.arraylength hx (by rw [e0]; exact Ar829.1) (State.isArrayOf_alike hZ.alike Ar829.2.1) (g := (mkF m 2 #[vr b738, vr x814, vr uu39, .val cv4] [(.ref uu39), cv4])) rfl rfl (hb hby d24_2)
  rw [len_of Sz829 Ng829] at aln829
  refine Go.step (fun _ k => aln829 _ (XS.icmpNo X0.here hx rfl (hb hby d24_3) rfl (teq (by decide)).2 (XS.aloadN X0.here hx rfl (hb hby d24_6) rfl rfl k))) ?_
  show Go p e below s _ _ _ s₁ (mkF m 7 #[vr b738, vr x814, vr uu39, .val cv4] [(.ref b738)])
  obtain ⟨cq890, q890, q890'⟩ := E_b738.cell
  obtain ⟨_, _, ⟨T890, L890, k890, n890⟩, -, X890, ⟨Lc890, hQ890, l890, y890, z890⟩, st890⟩ := X0.privateBack hx (y := xm27) hown (mvT hZ (tw211 hw)) (mvT hZ (tw212 hw)) (mvT hZ (tw214 hw)) (Cond.privateMethod_at (mvP hZ (tw213 hw) (args := #[]))) (mvT hZ (tw215 hw)) (by decide) (backOf (W := 0) (rm_ArrayList_grow_4 l Z a0 hw [] b738 uu39 uu40 x744 x753 x779 x796 moa h0 n0 Z0 F_size_b738 F_elementData_b738 V_b614_634_639_654_659_688_808 E_b614_634_639_654_659_688_808 M_moa E_x796 E_x779 E_x753 E_x744 E_b738 g_b738 F_modCount_b738) hZ (tw215 hw) (tw51 hw) (by decide) (by decide)) (g := (mkF m 7 #[vr b738, vr x814, vr uu39, .val cv4] [(.ref b738)])) rfl (by rw [hml]; rfl) (Steps.refl _) (a := b738) (by rw [e0]; exact q890) q890' (argsL := []) (rest := []) (lenOf pd_12 rfl) rfl (Nat.le_of_eq rfl) (hb hby d24_7) (fun _ _ => ⟨rfl, e0, (by decide : 0 + 1 ≤ _), (by decide : 0 + 6 ≤ _)⟩)
  dsimp only [Pt.U, Pt.locs, Pt.cells, Pt.slots] at X890 l890 y890 z890 st890 hQ890
  subst l890 y890 z890
  obtain ⟨uu47, uu48, rfl, N890q, K890, P890_0, P890_1, P890_2, P890_3, P890_4, P890_5, P890_6⟩ := hQ890
  have N891 := Fr.app N0 N890q
  refine Go.step (fun _ k => st890.trans (XS.astoreN X890.here hx rfl (hb hby d24_10) rfl rfl (l' := #[vr b738, vr x814, vr uu47, .val cv4]) rfl (XS.aloadN X890.here hx rfl (hb hby d24_11) rfl rfl (XS.iloadN X890.here hx rfl (hb hby d24_12) rfl (XS.aloadN X890.here hx rfl (hb hby d24_13) rfl rfl k))))) ?_
  show Go p e below s _ _ _ T890 (mkF m 14 #[vr b738, vr x814, vr uu47, .val cv4] [(.ref x814), cv4, (.ref uu47)])
  obtain ⟨cl892, Ar892, qq892, Sz892, Ng892, Hs892, Ft892⟩ := id P890_5
  have in892 : ¬ (ci4 < 0 ∨ cl892.slots.size ≤ (ci4).toNatClampNeg) := (inb_of Sz892 ⟨by decide, by decide⟩)
  have f893 := (E_x814.keep K890)
  obtain ⟨T892, h892, X892, e892, W892, st892⟩ := stR X890 hx hZ rfl Ar892 (j := ci4) in892 rfl (Sto.ofV Ar892 qq892 P890_6 (Ins.of_exa f893 (tw157 hw))) (g := (mkF m 14 #[vr b738, vr x814, vr uu47, .val cv4] [(.ref x814), cv4, (.ref uu47)])) rfl rfl (hb hby d24_14)
  have g894 := Nat.le_trans Z0 P890_3
  have f895 : Arv Z h892 uu47 uu48 (.object xs39) ci6 [(.ref x744), (.ref x753), (.ref x779), (.ref x796), (.ref x814), .null] .null := Arv.set Ar892 qq892 Sz892 Ng892 Hs892 Ft892 rfl W892 4 rfl (Nat.le_of_ble_eq_true rfl)
  have N896 := Fr.snoc X892 N891 g894
  refine Go.step (fun _ k => st892 _ (XS.aloadN X892.here hx rfl (hb hby d24_15) rfl rfl (XS.iloadN X892.here hx rfl (hb hby d24_16) rfl (XS.iconst X892.here hx rfl (hb hby d24_17) (XS.iadd X892.here hx rfl (hb hby d24_18) rfl k))))) ?_
  show Go p e below s _ _ _ T892 (mkF m 19 #[vr b738, vr x814, vr uu47, .val cv4] [cv5, (.ref b738)])
  have ne897 : b738 ≠ uu47 := Nat.ne_of_lt (Nat.lt_of_lt_of_le E_b738.lt P890_3)
  have f898 := (P890_0.other W892 (Or.inl ne897))
  have f899 := ((E_b738.keep K890).wr W892)
  obtain ⟨T900, h900, X900, e900, W900, st900⟩ := putF X892 hx hZ hown (host := "") (Or.inl (tw158 hw)) Via.refl e892 f898 f899 (Or.inl (tw159 hw)) (tw50 hw) (ty := .int) (by decide) rfl rfl (g := (mkF m 19 #[vr b738, vr x814, vr uu47, .val cv4] [cv5, (.ref b738)])) rfl rfl (hb hby d24_19)
  have f901 := f898.same W900
  have N902 := Fr.snoc X900 N896 g_b738
  refine Go.step (fun _ k => st900 _ k) ?_
  show Go p e below s _ _ _ T900 (mkF m 22 #[vr b738, vr x814, vr uu47, .val cv4] [])
  have z903 := Nat.le_trans (Nat.le_refl _) P890_3
  have f904 := ((((Keep.refl h0 [b738]).trans K890 (allS (Or.inl (List.mem_of_getElem? (i := 0) rfl)) all0)).wr W892 (Or.inr z903)).wr W900 (Or.inl (List.mem_of_getElem? (i := 0) rfl)))
  have f905 := ((P890_1.other W892 (Or.inl ne897)).other W900 (Or.inr (slot_ne (Or.inl (tw187 hw)) (Or.inl (tw159 hw)) (by decide) (t := (.array (.object xs39))) (t' := .int) (by decide) (by decide))))
  have f906 := ((P890_2.other W892 (Or.inl ne897)).other W900 (Or.inr (slot_ne (Or.inl (tw143 hw)) (Or.inl (tw159 hw)) (by decide) (t := .int) (t' := .int) (by decide) (by decide))))
  have f907 := ((P890_4.wr W892).wr W900)
  have f908 := (f895.other W900 (Ne.symm ne897))
  have f909 := (Nat.le_trans (Nat.le_trans (Nat.le_trans (Nat.le_refl _) K890.1) (Keep.of_wr W892).1) (Keep.of_wr W900).1)
  exact Go.retV X900 hx hlk Bd.returns (hb hby d24_22) e900 ⟨uu47, uu48, rfl, N902, f904, f901, f905, f906, z903, f907, f908, P890_6⟩ (by decide) (by decide)

theorem ef_ArrayList_add_4 (m : MethodId) (x0 : Addr) (x1 : Addr) : entryFrame m #[(.ref x0), (.ref x1)] 2 = mkF m 0 #[vr x0, vr x1] [] := by first | (simp [entryFrame, mkF, argsToLocals, Value.category]; done) | rfl
def Q_ArrayList_add_4 (Z : State) (b738 : Addr) (x814 : Addr) (uu39 : Addr) (uu40 : ClassId) (x744 : Addr) (x753 : Addr) (x779 : Addr) (x796 : Addr) (moa : Addr) (h0 : Heap) (n0 : Nat) (v : Option Value) (h : Heap) (L : List Loc) : Prop := ∃ (uu49 : Addr) (uu50 : ClassId), v = some cv1 ∧ Fr n0 L ∧ Keep h0 h [b738] ∧ Fld Z h b738 xs29 "modCount" "I" cv3 ∧ Fld Z h b738 xs35 "elementData" xs34 (.ref uu49) ∧ Fld Z h b738 xs35 "size" "I" cv5 ∧ h0.size ≤ uu49 ∧ Exa Z h uu49 xs34 ∧ Arv Z h uu49 uu50 (.object xs39) ci6 [(.ref x744), (.ref x753), (.ref x779), (.ref x796), (.ref x814), .null] .null ∧ Ovr Z uu50 xs39
set_option maxRecDepth 65536 in
set_option maxHeartbeats 40000000 in
theorem rm_ArrayList_add_4 (l : Launch) (Z : State) (a0 : Array Value) (hw : ∀ d ∈ tables_1, d.before a0 Z = true) (ws : List Jvm.Cond) (b738 : Addr) (x814 : Addr) (uu39 : Addr) (uu40 : ClassId) (x744 : Addr) (x753 : Addr) (x779 : Addr) (x796 : Addr) (moa : Addr) (h0 : Heap) (n0 : Nat) (Z0 : n0 ≤ h0.size) (F_modCount_b738 : Fld Z h0 b738 xs29 "modCount" "I" cv2) (E_b738 : Exa Z h0 b738 xs35) (g_b738 : n0 ≤ b738) (F_elementData_b738 : Fld Z h0 b738 xs35 "elementData" xs34 (.ref uu39)) (F_size_b738 : Fld Z h0 b738 xs35 "size" "I" cv4) (V_b614_634_639_654_659_688_808 : Arv Z h0 uu39 uu40 (.object xs39) ci4 [(.ref x744), (.ref x753), (.ref x779), (.ref x796)] .null) (E_b614_634_639_654_659_688_808 : Exa Z h0 uu39 xs34) (M_moa : Mir Z xs34 moa) (E_x796 : Exa Z h0 x796 xs17) (E_x779 : Exa Z h0 x779 xs17) (E_x753 : Exa Z h0 x753 xs17) (E_x744 : Exa Z h0 x744 xs17) (E_x814 : Exa Z h0 x814 xs17) (ne_b614_634_639_654_659_688_808_b738 : uu39 ≠ b738) :
    MetFree l xm32 (head1 (Jvm.Cond.code xm32 jdk_38_method_25_code 2 (some .boolean) :: ws) xr33) (fun a U => a = #[(.ref b738), (.ref x814)] ∧ Z.Warmed39 U.vm ∧ U.heap = h0) (fun _ _ _ _ _ => True) (fun _ U o U' => ∃ v L, o = .returned v ∧ Q_ArrayList_add_4 Z b738 x814 uu39 uu40 x744 x753 x779 x796 moa h0 n0 v U'.heap L ∧ FrameEnd U o U' L xr33.cells xr33.slots) := by
  refine MetFree.of_bodySF (plainFor_of_name pn_13) hisR ?_
  intro p e s m args below meth c s₁ Bd hml0 hP hK
  obtain ⟨rfl, hZ, hh⟩ := hP
  have hx := Bd.exec
  have hby := Bd.bytes
  have hlk : meth.locks = false := BodyLoose.notSynchronized Bd
  have hml : c.maxLocals = 2 := hml0
  have hown : s.vm.findClass xs35 = some m.cls := findClass_of_methodNamed Bd.named
  have hnm := (name_of_methodNamed Bd.named Bd.method).1
  have X0 : Stand p l e xr33 s m #[(.ref b738), (.ref x814)] below meth c s₁ [] 0 0 := Stand.of_body Bd
  have e0 : s₁.heap = h0 := by rw [← hh, Bd.state]; rfl
  have N0 := Fr.nil n0
  show Go p e below s (Q_ArrayList_add_4 Z b738 x814 uu39 uu40 x744 x753 x779 x796 moa h0 n0) xr33.cells xr33.slots s₁ (entryFrame m #[(.ref b738), (.ref x814)] 2)
  refine Go.cast (ef_ArrayList_add_4 m b738 x814) ?_
  show Go p e below s _ _ _ s₁ (mkF m 0 #[vr b738, vr x814] [])
  refine Go.step (fun _ k => XS.aloadN X0.here hx rfl (hb hby d23_0) rfl rfl (XS.dup X0.here hx rfl (hb hby d23_1) rfl rfl k)) ?_
  show Go p e below s _ _ _ s₁ (mkF m 2 #[vr b738, vr x814] [(.ref b738), (.ref b738)])
  obtain ⟨T821, X821, e821, st821⟩ := getF X0 hx hZ hown (host := "") (Or.inl (tw204 hw)) (Via.of (tw205 hw)) e0 F_modCount_b738 (g := (mkF m 2 #[vr b738, vr x814] [(.ref b738), (.ref b738)])) rfl rfl (hb hby d23_2)
  refine Go.step (fun _ k => st821 _ (XS.iconst X821.here hx rfl (hb hby d23_5) (XS.iadd X821.here hx rfl (hb hby d23_6) rfl k))) ?_
  show Go p e below s _ _ _ T821 (mkF m 7 #[vr b738, vr x814] [cv3, (.ref b738)])
  obtain ⟨T822, h822, X822, e822, W822, st822⟩ := putF X821 hx hZ hown (host := "") (Or.inl (tw204 hw)) (Via.of (tw205 hw)) e821 F_modCount_b738 E_b738 (Or.inl (tw143 hw)) (tw50 hw) (ty := .int) (by decide) rfl rfl (g := (mkF m 7 #[vr b738, vr x814] [cv3, (.ref b738)])) rfl rfl (hb hby d23_7)
  have f823 := F_modCount_b738.same W822
  have N824 := Fr.snoc X822 N0 g_b738
  refine Go.step (fun _ k => st822 _ (XS.aloadN X822.here hx rfl (hb hby d23_10) rfl rfl (XS.aloadN X822.here hx rfl (hb hby d23_11) rfl rfl (XS.aloadN X822.here hx rfl (hb hby d23_12) rfl rfl k)))) ?_
  show Go p e below s _ _ _ T822 (mkF m 13 #[vr b738, vr x814] [(.ref b738), (.ref x814), (.ref b738)])
  have f825 := (F_elementData_b738.other W822 (Or.inr (slot_ne (Or.inl (tw187 hw)) (Or.inl (tw143 hw)) (by decide) (t := (.array (.object xs39))) (t' := .int) (by decide) (by decide))))
  obtain ⟨T826, X826, e826, st826⟩ := getF X822 hx hZ hown (host := "") (Or.inl (tw186 hw)) Via.refl e822 f825 (g := (mkF m 13 #[vr b738, vr x814] [(.ref b738), (.ref x814), (.ref b738)])) rfl rfl (hb hby d23_13)
  refine Go.step (fun _ k => st826 _ (XS.aloadN X826.here hx rfl (hb hby d23_16) rfl rfl k)) ?_
  show Go p e below s _ _ _ T826 (mkF m 17 #[vr b738, vr x814] [(.ref b738), (.ref uu39), (.ref x814), (.ref b738)])
  have f827 := (F_size_b738.other W822 (Or.inr (slot_ne (Or.inl (tw159 hw)) (Or.inl (tw143 hw)) (by decide) (t := .int) (t' := .int) (by decide) (by decide))))
  obtain ⟨T828, X828, e828, st828⟩ := getF X826 hx hZ hown (host := "") (Or.inl (tw158 hw)) Via.refl e826 f827 (g := (mkF m 17 #[vr b738, vr x814] [(.ref b738), (.ref uu39), (.ref x814), (.ref b738)])) rfl rfl (hb hby d23_17)
  refine Go.step (fun _ k => st828 _ k) ?_
  show Go p e below s _ _ _ T828 (mkF m 20 #[vr b738, vr x814] [cv4, (.ref uu39), (.ref x814), (.ref b738)])
  have f910 := (Nat.le_trans Z0 (Keep.of_wr W822).1)
  have f912 := (V_b614_634_639_654_659_688_808.other W822 ne_b614_634_639_654_659_688_808_b738)
  have f913 := (E_b614_634_639_654_659_688_808.wr W822)
  have f914 := (E_x796.wr W822)
  have f915 := (E_x779.wr W822)
  have f916 := (E_x753.wr W822)
  have f917 := (E_x744.wr W822)
  have f918 := (E_b738.wr W822)
  have f919 := (E_x814.wr W822)
  obtain ⟨cq920, q920, q920'⟩ := f918.cell
  obtain ⟨_, _, ⟨T920, L920, k920, n920⟩, -, X920, ⟨Lc920, hQ920, l920, y920, z920⟩, st920⟩ := X828.privateBack hx (y := xm31) hown (mvT hZ (tw206 hw)) (mvT hZ (tw207 hw)) (mvT hZ (tw209 hw)) (Cond.privateMethod_at (mvP hZ (tw208 hw) (args := #[]))) (mvT hZ (tw210 hw)) (by decide) (backOf (W := 0) (rm_ArrayList_add_5 l Z a0 hw [] b738 x814 uu39 uu40 x744 x753 x779 x796 moa h822 n0 f910 f912 f827 f825 f913 M_moa f914 f915 f916 f917 f918 g_b738 f823 f919) hZ (tw210 hw) (tw51 hw) (by decide) (by decide)) (g := (mkF m 20 #[vr b738, vr x814] [cv4, (.ref uu39), (.ref x814), (.ref b738)])) rfl (by rw [hml]; rfl) (Steps.refl _) (a := b738) (by rw [e828]; exact q920) q920' (argsL := [(.ref x814), (.ref uu39), cv4]) (rest := []) (lenOf pd_20 rfl) rfl (Nat.le_of_eq rfl) (hb hby d23_20) (fun _ _ => ⟨rfl, e828, (by decide : 0 + 1 ≤ _), (by decide : 0 + 6 ≤ _)⟩)
  dsimp only [Pt.U, Pt.locs, Pt.cells, Pt.slots] at X920 l920 y920 z920 st920 hQ920
  subst l920 y920 z920
  obtain ⟨uu49, uu50, rfl, N920q, K920, P920_0, P920_1, P920_2, P920_3, P920_4, P920_5, P920_6⟩ := hQ920
  have N921 := Fr.app N824 N920q
  refine Go.step (fun _ k => st920.trans (XS.iconst X920.here hx rfl (hb hby d23_23) k)) ?_
  show Go p e below s _ _ _ T920 (mkF m 24 #[vr b738, vr x814] [cv1])
  have f922 := (((Keep.refl h0 [b738]).wr W822 (Or.inl (List.mem_of_getElem? (i := 0) rfl))).trans K920 (allS (Or.inl (List.mem_of_getElem? (i := 0) rfl)) all0))
  have f923 := (Nat.le_trans (Nat.le_refl _) (Keep.of_wr W822).1)
  have z924 := Nat.le_trans f923 P920_3
  have f925 := (Nat.le_trans (Nat.le_trans (Nat.le_refl _) (Keep.of_wr W822).1) K920.1)
  exact Go.retN X920 hx hlk (t := .boolean) Bd.returns (by simp) (hb hby d23_24) rfl ⟨uu49, uu50, rfl, N921, f922, P920_2, P920_1, P920_0, z924, P920_4, P920_5, P920_6⟩ (by decide) (by decide)

theorem ef_Trip_goods_2 (m : MethodId) (x0 : Addr) : entryFrame m #[(.ref x0)] 3 = mkF m 0 #[vr x0, .unset, .unset] [] := by first | (simp [entryFrame, mkF, argsToLocals, Value.category]; done) | rfl
def Q_Trip_goods_2 (Z : State) (b113 : Addr) (ar : Int32) (els : List Value) (x744 : Addr) (dp : Int32) (x753 : Addr) (m12 : Addr) (mal : Addr) (moa : Addr) (em : Addr) (hot : Addr) (kk : Int32) (x779 : Addr) (hg : Addr) (x796 : Addr) (x814 : Addr) (li : Addr) (al : Addr) (ea : Addr) (kea : ClassId) (lo : Addr) (lg : Addr) (lc : Addr) (h0 : Heap) (n0 : Nat) (v : Option Value) (h : Heap) (L : List Loc) : Prop := ∃ (b738 : Addr) (uu51 : Addr) (uu52 : ClassId), v = some (.ref b738) ∧ Fr n0 L ∧ Keep h0 h [] ∧ h0.size ≤ b738 ∧ Exa Z h b738 xs35 ∧ Fld Z h b738 xs29 "modCount" "I" cv3 ∧ Fld Z h b738 xs35 "size" "I" cv5 ∧ Fld Z h b738 xs35 "elementData" xs34 (.ref uu51) ∧ h0.size ≤ uu51 ∧ Exa Z h uu51 xs34 ∧ Arv Z h uu51 uu52 (.object xs39) ci6 [(.ref x744), (.ref x753), (.ref x779), (.ref x796), (.ref x814), .null] .null ∧ Ovr Z uu52 xs39 ∧ b738 ≠ uu51
set_option maxRecDepth 65536 in
set_option maxHeartbeats 40000000 in
theorem rm_Trip_goods_2 (l : Launch) (Z : State) (a0 : Array Value) (hw : ∀ d ∈ tables_1, d.before a0 Z = true) (ws : List Jvm.Cond) (b113 : Addr) (ar : Int32) (els : List Value) (x744 : Addr) (dp : Int32) (x753 : Addr) (m12 : Addr) (mal : Addr) (moa : Addr) (em : Addr) (hot : Addr) (kk : Int32) (x779 : Addr) (hg : Addr) (x796 : Addr) (x814 : Addr) (li : Addr) (al : Addr) (ea : Addr) (kea : ClassId) (lo : Addr) (lg : Addr) (lc : Addr) (h0 : Heap) (n0 : Nat) (Z0 : n0 ≤ h0.size) (F_arrival_b113 : Fld Z h0 b113 xs18 "arrival" "I" (.int ar)) (pk_745 : (els : List Value).getD ((((ci0 * ci4) + ar) - ci1)).toNatClampNeg .null = .ref x744) (har : own_I ar) (O0 : Old Z n0 h0) (Z_S_INFLIGHT : Sta Z Z.heap xs11 "INFLIGHT" xs10 (.ref li)) (Z_E_li : Exa Z Z.heap li xs11) (Z_F_first_li : Fld Z Z.heap li xs11 "first" "I" cv1) (Z_F_ordinal_li : Fld Z Z.heap li xs43 "ordinal" "I" cv0) (Z_S_ALL : Sta Z Z.heap xs17 "ALL" xs40 (.ref al)) (Z_E_al : Exa Z Z.heap al xs22) (Z_F_elements_al : Fld Z Z.heap al xs22 "elements" xs34 (.ref ea)) (Z_A_ea : Arv Z Z.heap ea kea (.object xs39) ci28 els .null) (E_x744 : Exa Z h0 x744 xs17) (F_departure_b113 : Fld Z h0 b113 xs18 "departure" "I" (.int dp)) (pk_754 : (els : List Value).getD ((((ci1 * ci4) + dp) - ci2)).toNatClampNeg .null = .ref x753) (hO : own_O dp) (Z_S_OUTFLIGHT : Sta Z Z.heap xs11 "OUTFLIGHT" xs10 (.ref lo)) (Z_E_lo : Exa Z Z.heap lo xs11) (Z_F_first_lo : Fld Z Z.heap lo xs11 "first" "I" cv2) (Z_F_ordinal_lo : Fld Z Z.heap lo xs43 "ordinal" "I" cv1) (E_x753 : Exa Z h0 x753 xs17) (M_m12 : Mir Z xs21 m12) (M_mal : Mir Z xs35 mal) (M_moa : Mir Z xs34 moa) (Z_S_EMPTY : Sta Z Z.heap xs26 "EMPTY" xs36 (.ref em)) (Z_E_em : Exa Z Z.heap em xs39) (ne_x753_em : x753 ≠ em) (ne_m12_mal : m12 ≠ mal) (hl0 : ar < dp) (F_hotel_b113 : Fld Z h0 b113 xs18 "hotel" xs13 (.ref hot)) (pk_780 : (els : List Value).getD ((((kk * ci4) + ar) - ci1)).toNatClampNeg .null = .ref x779) (hKk : own_K hg hot kk) (Z_S_GOOD : Sta Z Z.heap xs16 "GOOD" xs13 (.ref hg)) (Z_S_GOOD_HOTEL : Sta Z Z.heap xs11 "GOOD_HOTEL" xs10 (.ref lg)) (Z_E_lg : Exa Z Z.heap lg xs11) (Z_F_first_lg : Fld Z Z.heap lg xs11 "first" "I" cv1) (Z_F_ordinal_lg : Fld Z Z.heap lg xs43 "ordinal" "I" cv2) (Z_S_CHEAP_HOTEL : Sta Z Z.heap xs11 "CHEAP_HOTEL" xs10 (.ref lc)) (Z_E_lc : Exa Z Z.heap lc xs11) (Z_F_first_lc : Fld Z Z.heap lc xs11 "first" "I" cv1) (Z_F_ordinal_lc : Fld Z Z.heap lc xs43 "ordinal" "I" cv3) (E_x779 : Exa Z h0 x779 xs17) (hl1 : (ar + ci1) < dp) (pk_797 : (els : List Value).getD ((((kk * ci4) + (ar + ci1)) - ci1)).toNatClampNeg .null = .ref x796) (hI1 : own_I (ar + ci1)) (E_x796 : Exa Z h0 x796 xs17) (hl2 : ((ar + ci1) + ci1) < dp) (pk_815 : (els : List Value).getD ((((kk * ci4) + ((ar + ci1) + ci1)) - ci1)).toNatClampNeg .null = .ref x814) (hI2 : own_I ((ar + ci1) + ci1)) (E_x814 : Exa Z h0 x814 xs17) (hl3 : ¬ (((ar + ci1) + ci1) + ci1) < dp) :
    MetFree l xm23 (head1 (Jvm.Cond.code xm23 prog_82_method_5_code 3 (some (.object xs44)) :: ws) xr2) (fun a U => a = #[(.ref b113)] ∧ Z.Warmed39 U.vm ∧ U.heap = h0) (fun _ _ _ _ _ => True) (fun _ U o U' => ∃ v L, o = .returned v ∧ Q_Trip_goods_2 Z b113 ar els x744 dp x753 m12 mal moa em hot kk x779 hg x796 x814 li al ea kea lo lg lc h0 n0 v U'.heap L ∧ FrameEnd U o U' L xr2.cells xr2.slots) := by
  refine MetFree.of_bodySF (plainFor_of_name pn_3) hisR ?_
  intro p e s m args below meth c s₁ Bd hml0 hP hK
  obtain ⟨rfl, hZ, hh⟩ := hP
  have hx := Bd.exec
  have hby := Bd.bytes
  have hlk : meth.locks = false := BodyLoose.notSynchronized Bd
  have hml : c.maxLocals = 3 := hml0
  have hown : s.vm.findClass xs18 = some m.cls := findClass_of_methodNamed Bd.named
  have hnm := (name_of_methodNamed Bd.named Bd.method).1
  have X0 : Stand p l e xr2 s m #[(.ref b113)] below meth c s₁ [] 0 0 := Stand.of_body Bd
  have e0 : s₁.heap = h0 := by rw [← hh, Bd.state]; rfl
  have N0 := Fr.nil n0
  show Go p e below s (Q_Trip_goods_2 Z b113 ar els x744 dp x753 m12 mal moa em hot kk x779 hg x796 x814 li al ea kea lo lg lc h0 n0) xr2.cells xr2.slots s₁ (entryFrame m #[(.ref b113)] 3)
  refine Go.cast (ef_Trip_goods_2 m b113) ?_
  show Go p e below s _ _ _ s₁ (mkF m 0 #[vr b113, .unset, .unset] [])
  obtain ⟨T738, h738, X738, e738, E738, A738, D738, -, st738⟩ := newO X0 hx hZ hown (tw49 hw) (tw50 hw) (tw51 hw) e0 (g := (mkF m 0 #[vr b113, .unset, .unset] [])) rfl (hb hby d11_0) (by decide) (by decide)
  obtain ⟨b738, g738⟩ : ∃ z, z = h0.size := ⟨_, rfl⟩
  rw [← g738] at A738 D738 st738
  have f739 : Fld Z h738 b738 xs29 "modCount" "I" cv0 := D738 (Or.inl (tw143 hw)) (ty := .int) (by decide)
  have f740 : Fld Z h738 b738 xs35 "size" "I" cv0 := D738 (Or.inl (tw159 hw)) (ty := .int) (by decide)
  have f741 : Fld Z h738 b738 xs35 "elementData" xs34 .null := D738 (Or.inl (tw187 hw)) (ty := (.array (.object xs39))) (by decide)
  refine Go.step (fun _ k => st738 _ (XS.dup X738.here hx rfl (hb hby d11_3) rfl rfl (XS.aloadN X738.here hx rfl (hb hby d11_4) rfl rfl k))) ?_
  show Go p e below s _ _ _ T738 (mkF m 5 #[vr b113, .unset, .unset] [(.ref b113), (.ref b738), (.ref b738)])
  have f742 := (F_arrival_b113.ext E738)
  obtain ⟨T743, X743, e743, st743⟩ := getF X738 hx hZ hown (host := "") (Or.inl (tw33 hw)) Via.refl e738 f742 (g := (mkF m 5 #[vr b113, .unset, .unset] [(.ref b113), (.ref b738), (.ref b738)])) rfl rfl (hb hby d11_5)
  refine Go.step (fun _ k => st743 _ k) ?_
  show Go p e below s _ _ _ T743 (mkF m 8 #[vr b113, .unset, .unset] [(.int ar), (.ref b738), (.ref b738)])
  have f746 := (O0.ext E738)
  have f747 := (Nat.le_trans Z0 E738.1)
  have f748 := (E_x744.ext E738)
  obtain ⟨_, _, ⟨T749, L749, k749, n749⟩, -, X749, ⟨Lc749, hQ749, l749, y749, z749⟩, st749⟩ := Jvm.LawKit.callS X743 hx (y := xm9) hown (mvT hZ (tw52 hw)) (mvT hZ (tw53 hw)) (mvT hZ (tw54 hw)) (mvT hZ (tw55 hw)) (by decide) (backOf (W := 2) (rm_inflight l Z a0 hw [] ar x744 li al ea kea els h738 n0 f747 f746 Z_S_INFLIGHT Z_E_li Z_F_first_li Z_F_ordinal_li Z_S_ALL Z_E_al Z_F_elements_al Z_A_ea f748 har pk_745) hZ (tw55 hw) (tw54 hw) (by decide) (by decide)) (g := (mkF m 8 #[vr b113, .unset, .unset] [(.int ar), (.ref b738), (.ref b738)])) rfl (by rw [hml]; rfl) (argsL := [(.int ar)]) (rest := [(.ref b738), (.ref b738)]) (lenOf pd_8 rfl) rfl (Nat.le_of_eq rfl) (hb hby d11_8) (fun _ _ => ⟨rfl, e743, (by decide : 1 + 0 ≤ _), (by decide : 3 + 0 ≤ _)⟩)
  dsimp only [Pt.U, Pt.locs, Pt.cells, Pt.slots] at X749 l749 y749 z749 st749 hQ749
  subst l749 y749 z749
  obtain ⟨rfl, N749q, eq749⟩ := hQ749
  have N750 := Fr.app N0 N749q
  refine Go.step (fun _ k => st749 _ (XS.aloadN X749.here hx rfl (hb hby d11_11) rfl rfl k)) ?_
  show Go p e below s _ _ _ T749 (mkF m 12 #[vr b113, .unset, .unset] [(.ref b113), (.ref x744), (.ref b738), (.ref b738)])
  have f751 := (F_departure_b113.ext E738)
  obtain ⟨T752, X752, e752, st752⟩ := getF X749 hx hZ hown (host := "") (Or.inl (tw35 hw)) Via.refl eq749 f751 (g := (mkF m 12 #[vr b113, .unset, .unset] [(.ref b113), (.ref x744), (.ref b738), (.ref b738)])) rfl rfl (hb hby d11_12)
  refine Go.step (fun _ k => st752 _ k) ?_
  show Go p e below s _ _ _ T752 (mkF m 15 #[vr b113, .unset, .unset] [(.int dp), (.ref x744), (.ref b738), (.ref b738)])
  have f755 := (E_x753.ext E738)
  obtain ⟨_, _, ⟨T756, L756, k756, n756⟩, -, X756, ⟨Lc756, hQ756, l756, y756, z756⟩, st756⟩ := Jvm.LawKit.callS X752 hx (y := xm6) hown (mvT hZ (tw89 hw)) (mvT hZ (tw90 hw)) (mvT hZ (tw54 hw)) (mvT hZ (tw91 hw)) (by decide) (backOf (W := 3) (rm_outflight l Z a0 hw [] dp x753 lo al ea kea els h738 n0 f747 f746 Z_S_OUTFLIGHT Z_E_lo Z_F_first_lo Z_F_ordinal_lo Z_S_ALL Z_E_al Z_F_elements_al Z_A_ea f755 hO pk_754) hZ (tw91 hw) (tw54 hw) (by decide) (by decide)) (g := (mkF m 15 #[vr b113, .unset, .unset] [(.int dp), (.ref x744), (.ref b738), (.ref b738)])) rfl (by rw [hml]; rfl) (argsL := [(.int dp)]) (rest := [(.ref x744), (.ref b738), (.ref b738)]) (lenOf pd_8 rfl) rfl (Nat.le_of_eq rfl) (hb hby d11_15) (fun _ _ => ⟨rfl, e752, (by decide : 1 + 0 ≤ _), (by decide : 3 + 0 ≤ _)⟩)
  dsimp only [Pt.U, Pt.locs, Pt.cells, Pt.slots] at X756 l756 y756 z756 st756 hQ756
  subst l756 y756 z756
  obtain ⟨rfl, N756q, eq756⟩ := hQ756
  have N757 := Fr.app N750 N756q
  refine Go.step (fun _ k => st756 _ k) ?_
  show Go p e below s _ _ _ T756 (mkF m 18 #[vr b113, .unset, .unset] [(.ref x753), (.ref x744), (.ref b738), (.ref b738)])
  obtain ⟨_, _, ⟨T758, L758, k758, n758⟩, -, X758, ⟨Lc758, hQ758, l758, y758, z758⟩, st758⟩ := Jvm.LawKit.callS X756 hx (y := xm38) hown (mvT hZ (tw94 hw)) (mvT hZ (tw95 hw)) (mvT hZ (tw96 hw)) (mvT hZ (tw97 hw)) (by decide) (backOf (W := 2) (rm_List_of_0 l Z a0 hw [] x744 x753 h738 n0 f747) hZ (tw97 hw) (tw96 hw) (by decide) (by decide)) (g := (mkF m 18 #[vr b113, .unset, .unset] [(.ref x753), (.ref x744), (.ref b738), (.ref b738)])) rfl (by rw [hml]; rfl) (argsL := [(.ref x744), (.ref x753)]) (rest := [(.ref b738), (.ref b738)]) (lenOf pd_11 rfl) rfl (Nat.le_of_eq rfl) (hb hby d11_18) (fun _ _ => ⟨rfl, eq756, (by decide : 1 + 1 ≤ _), (by decide : 3 + 2 ≤ _)⟩)
  dsimp only [Pt.U, Pt.locs, Pt.cells, Pt.slots] at X758 l758 y758 z758 st758 hQ758
  subst l758 y758 z758
  obtain ⟨uu53, rfl, N758q, K758, P758_0, P758_1, P758_2, P758_3⟩ := hQ758
  have N759 := Fr.app N757 N758q
  refine Go.step (fun _ k => st758 _ k) ?_
  show Go p e below s _ _ _ T758 (mkF m 21 #[vr b113, .unset, .unset] [(.ref uu53), (.ref b738), (.ref b738)])
  have f760 := (f746.keep K758 all0)
  have f761 := (Nat.le_trans f747 K758.1)
  have f762 := (A738.keep K758)
  have f763 := (f739.keep K758 nin0)
  have g764 := Nat.le_trans Z0 (Nat.le_of_eq g738.symm)
  have f765 := (f741.keep K758 nin0)
  have f766 := (f740.keep K758 nin0)
  have f767 := (f748.keep K758)
  have f768 := (f755.keep K758)
  have ne769 : b738 ≠ uu53 := Nat.ne_of_lt (Nat.lt_of_lt_of_le A738.lt P758_0)
  obtain ⟨_, _, ⟨T770, L770, k770, n770⟩, -, X770, ⟨Lc770, hQ770, l770, y770, z770⟩, st770⟩ := X758.specialBack hx (y := xm18) rfl hown (mvT hZ (tw131 hw)) (mvT hZ (tw132 hw)) (mvT hZ (tw133 hw)) (by decide) (backOf (W := 1) (rm_ArrayList_new_0 l Z a0 hw [] b738 uu53 x753 em x744 m12 mal moa T758.heap n0 f761 f762 f763 g764 f765 f766 P758_1 P758_3 Z_S_EMPTY f760 Z_E_em ne_x753_em P758_2 f767 f768 (Ne.symm ne769) M_m12 M_mal ne_m12_mal M_moa) hZ (tw133 hw) (tw51 hw) (by decide) (by decide)) (g := (mkF m 21 #[vr b113, .unset, .unset] [(.ref uu53), (.ref b738), (.ref b738)])) rfl (by rw [hml]; rfl) (Steps.refl _) (a := b738) (argsL := [(.ref uu53)]) (rest := [(.ref b738)]) (lenOf pd_15 rfl) rfl (Nat.le_of_eq rfl) (hb hby d11_21) (fun _ _ => ⟨rfl, rfl, (by decide : 2 + 2 ≤ _), (by decide : 5 + 4 ≤ _)⟩)
  dsimp only [Pt.U, Pt.locs, Pt.cells, Pt.slots] at X770 l770 y770 z770 st770 hQ770
  subst l770 y770 z770
  obtain ⟨uu54, uu55, rfl, N770q, K770, P770_0, P770_1, P770_2, P770_3, P770_4, P770_5, P770_6⟩ := hQ770
  have N771 := Fr.app N759 N770q
  refine Go.step (fun _ k => st770.trans (XS.astoreN X770.here hx rfl (hb hby d11_24) rfl rfl (l' := #[vr b113, vr b738, .unset]) rfl (XS.aloadN X770.here hx rfl (hb hby d11_25) rfl rfl k))) ?_
  show Go p e below s _ _ _ T770 (mkF m 26 #[vr b113, vr b738, .unset] [(.ref b113)])
  have ne772 : b113 ≠ b738 := Nat.ne_of_lt (Nat.lt_of_lt_of_le F_arrival_b113.lt (Nat.le_of_eq g738.symm))
  have f773 := ((f742.keep K758 nin0).keep K770 (ninS ne772 nin0))
  obtain ⟨T774, X774, e774, st774⟩ := getF X770 hx hZ hown (host := "") (Or.inl (tw33 hw)) Via.refl rfl f773 (g := (mkF m 26 #[vr b113, vr b738, .unset] [(.ref b113)])) rfl rfl (hb hby d11_26)
  refine Go.step (fun _ k => st774 _ (XS.istoreN X774.here hx rfl (hb hby d11_29) rfl (l' := #[vr b113, vr b738, vi ar]) rfl (XS.iloadN X774.here hx rfl (hb hby d11_30) rfl (XS.aloadN X774.here hx rfl (hb hby d11_31) rfl rfl k)))) ?_
  show Go p e below s _ _ _ T774 (mkF m 32 #[vr b113, vr b738, vi ar] [(.ref b113), (.int ar)])
  have f775 := ((f751.keep K758 nin0).keep K770 (ninS ne772 nin0))
  obtain ⟨T776, X776, e776, st776⟩ := getF X774 hx hZ hown (host := "") (Or.inl (tw35 hw)) Via.refl e774 f775 (g := (mkF m 32 #[vr b113, vr b738, vi ar] [(.ref b113), (.int ar)])) rfl rfl (hb hby d11_32)
  refine Go.step (fun _ k => st776 _ (XS.icmpNo X776.here hx rfl (hb hby d11_35) rfl (tlt hl0).2.1 (XS.aloadN X776.here hx rfl (hb hby d11_38) rfl rfl (XS.aloadN X776.here hx rfl (hb hby d11_39) rfl rfl k)))) ?_
  show Go p e below s _ _ _ T776 (mkF m 40 #[vr b113, vr b738, vi ar] [(.ref b113), (.ref b738)])
  have f777 := (((F_hotel_b113.ext E738).keep K758 nin0).keep K770 (ninS ne772 nin0))
  obtain ⟨T778, X778, e778, st778⟩ := getF X776 hx hZ hown (host := "") (Or.inl (tw37 hw)) Via.refl e776 f777 (g := (mkF m 40 #[vr b113, vr b738, vi ar] [(.ref b113), (.ref b738)])) rfl rfl (hb hby d11_40)
  refine Go.step (fun _ k => st778 _ (XS.iloadN X778.here hx rfl (hb hby d11_43) rfl k)) ?_
  show Go p e below s _ _ _ T778 (mkF m 44 #[vr b113, vr b738, vi ar] [(.int ar), (.ref hot), (.ref b738)])
  have f781 := (f760.keep K770 (allS g764 all0))
  have f782 := (Nat.le_trans f761 K770.1)
  have f783 := (((E_x779.ext E738).keep K758).keep K770)
  obtain ⟨_, _, ⟨T784, L784, k784, n784⟩, -, X784, ⟨Lc784, hQ784, l784, y784, z784⟩, st784⟩ := Jvm.LawKit.callS X778 hx (y := xm30) hown (mvT hZ (tw188 hw)) (mvT hZ (tw189 hw)) (mvT hZ (tw54 hw)) (mvT hZ (tw190 hw)) (by decide) (backOf (W := 1) (rm_room l Z a0 hw [] hot kk ar x779 hg lg lc al ea kea els T770.heap n0 f782 f781 Z_S_GOOD Z_S_GOOD_HOTEL Z_E_lg Z_F_first_lg Z_F_ordinal_lg Z_S_CHEAP_HOTEL Z_E_lc Z_F_first_lc Z_F_ordinal_lc Z_S_ALL Z_E_al Z_F_elements_al Z_A_ea f783 hKk har pk_780) hZ (tw190 hw) (tw54 hw) (by decide) (by decide)) (g := (mkF m 44 #[vr b113, vr b738, vi ar] [(.int ar), (.ref hot), (.ref b738)])) rfl (by rw [hml]; rfl) (argsL := [(.ref hot), (.int ar)]) (rest := [(.ref b738)]) (lenOf pd_16 rfl) rfl (Nat.le_of_eq rfl) (hb hby d11_44) (fun _ _ => ⟨rfl, e778, (by decide : 4 + 0 ≤ _), (by decide : 9 + 0 ≤ _)⟩)
  dsimp only [Pt.U, Pt.locs, Pt.cells, Pt.slots] at X784 l784 y784 z784 st784 hQ784
  subst l784 y784 z784
  obtain ⟨rfl, N784q, eq784⟩ := hQ784
  have N785 := Fr.app N771 N784q
  refine Go.step (fun _ k => st784 _ k) ?_
  show Go p e below s _ _ _ T784 (mkF m 47 #[vr b113, vr b738, vi ar] [(.ref x779), (.ref b738)])
  have f786 := (f762.keep K770)
  have f787 := (f768.keep K770)
  have f788 := (f767.keep K770)
  have ne789 : b738 ≠ uu54 := Nat.ne_of_lt (Nat.lt_of_lt_of_le f762.lt P770_3)
  obtain ⟨cq790, kq790, q790a, q790b, q790c⟩ := isOf hZ eq784 f786
  obtain ⟨_, _, ⟨T790, L790, k790, n790⟩, -, X790, ⟨Lc790, hQ790, l790, y790, z790⟩, st790⟩ := X784.interfaceBack hx (xi := xm33) (y := xm32) hown (mvT hZ (tw195 hw)) (mvT hZ (tw196 hw)) (mvT hZ (tw197 hw)) (mvT hZ (tw198 hw)) (mvT hZ (tw199 hw)) (mvT hZ (tw200 hw)) (mvT hZ (tw201 hw)) (mvT hZ (tw202 hw)) (by decide) (backOf (W := 0) (rm_ArrayList_add_0 l Z a0 hw [] b738 x779 uu54 uu55 x744 x753 moa T770.heap n0 f782 P770_0 f786 g764 P770_1 P770_2 P770_5 P770_4 M_moa f787 f788 f783 (Ne.symm ne789)) hZ (tw203 hw) (tw51 hw) (by decide) (by decide)) q790a q790b q790c (g := (mkF m 47 #[vr b113, vr b738, vi ar] [(.ref x779), (.ref b738)])) rfl (by rw [hml]; rfl) (Steps.refl _) (argsL := [(.ref x779)]) (rest := []) (lenOf pd_21 rfl) rfl (Nat.le_of_eq rfl) (hb hby d11_47) (fun _ _ => ⟨rfl, eq784, (by decide : 4 + 1 ≤ _), (by decide : 9 + 3 ≤ _)⟩)
  dsimp only [Pt.U, Pt.locs, Pt.cells, Pt.slots] at X790 l790 y790 z790 st790 hQ790
  subst l790 y790 z790
  obtain ⟨uu56, uu57, rfl, N790q, K790, P790_0, P790_1, P790_2, P790_3, P790_4, P790_5, P790_6⟩ := hQ790
  have N791 := Fr.app N785 N790q
  refine Go.step (fun _ k => st790.trans (XS.pop X790.here hx rfl (hb hby d11_52) rfl rfl (XS.iinc X790.here hx rfl (hb hby d11_53) rfl (l' := #[vr b113, vr b738, .val (.int (ar + ci1))]) rfl (XS.goto X790.here hx rfl (pc0 := 56) (pc' := 30) rfl (hb hby d11_56) (by decide) (by decide) (XS.iloadN X790.here hx rfl (hb hby d11_30) rfl (XS.aloadN X790.here hx rfl (hb hby d11_31) rfl rfl k)))))) ?_
  show Go p e below s _ _ _ T790 (mkF m 32 #[vr b113, vr b738, .val (.int (ar + ci1))] [(.ref b113), (.int (ar + ci1))])
  have f792 := (f775.keep K790 (ninS ne772 nin0))
  obtain ⟨T793, X793, e793, st793⟩ := getF X790 hx hZ hown (host := "") (Or.inl (tw35 hw)) Via.refl rfl f792 (g := (mkF m 32 #[vr b113, vr b738, .val (.int (ar + ci1))] [(.ref b113), (.int (ar + ci1))])) rfl rfl (hb hby d11_32)
  refine Go.step (fun _ k => st793 _ (XS.icmpNo X793.here hx rfl (hb hby d11_35) rfl (tlt hl1).2.1 (XS.aloadN X793.here hx rfl (hb hby d11_38) rfl rfl (XS.aloadN X793.here hx rfl (hb hby d11_39) rfl rfl k)))) ?_
  show Go p e below s _ _ _ T793 (mkF m 40 #[vr b113, vr b738, .val (.int (ar + ci1))] [(.ref b113), (.ref b738)])
  have f794 := (f777.keep K790 (ninS ne772 nin0))
  obtain ⟨T795, X795, e795, st795⟩ := getF X793 hx hZ hown (host := "") (Or.inl (tw37 hw)) Via.refl e793 f794 (g := (mkF m 40 #[vr b113, vr b738, .val (.int (ar + ci1))] [(.ref b113), (.ref b738)])) rfl rfl (hb hby d11_40)
  refine Go.step (fun _ k => st795 _ (XS.iloadN X795.here hx rfl (hb hby d11_43) rfl k)) ?_
  show Go p e below s _ _ _ T795 (mkF m 44 #[vr b113, vr b738, .val (.int (ar + ci1))] [(.int (ar + ci1)), (.ref hot), (.ref b738)])
  have f798 := (f781.keep K790 (allS g764 all0))
  have f799 := (Nat.le_trans f782 K790.1)
  have f800 := ((((E_x796.ext E738).keep K758).keep K770).keep K790)
  obtain ⟨_, _, ⟨T801, L801, k801, n801⟩, -, X801, ⟨Lc801, hQ801, l801, y801, z801⟩, st801⟩ := Jvm.LawKit.callS X795 hx (y := xm30) hown (mvT hZ (tw188 hw)) (mvT hZ (tw189 hw)) (mvT hZ (tw54 hw)) (mvT hZ (tw190 hw)) (by decide) (backOf (W := 1) (rm_room l Z a0 hw [] hot kk (ar + ci1) x796 hg lg lc al ea kea els T790.heap n0 f799 f798 Z_S_GOOD Z_S_GOOD_HOTEL Z_E_lg Z_F_first_lg Z_F_ordinal_lg Z_S_CHEAP_HOTEL Z_E_lc Z_F_first_lc Z_F_ordinal_lc Z_S_ALL Z_E_al Z_F_elements_al Z_A_ea f800 hKk hI1 pk_797) hZ (tw190 hw) (tw54 hw) (by decide) (by decide)) (g := (mkF m 44 #[vr b113, vr b738, .val (.int (ar + ci1))] [(.int (ar + ci1)), (.ref hot), (.ref b738)])) rfl (by rw [hml]; rfl) (argsL := [(.ref hot), (.int (ar + ci1))]) (rest := [(.ref b738)]) (lenOf pd_16 rfl) rfl (Nat.le_of_eq rfl) (hb hby d11_44) (fun _ _ => ⟨rfl, e795, (by decide : 5 + 0 ≤ _), (by decide : 12 + 0 ≤ _)⟩)
  dsimp only [Pt.U, Pt.locs, Pt.cells, Pt.slots] at X801 l801 y801 z801 st801 hQ801
  subst l801 y801 z801
  obtain ⟨rfl, N801q, eq801⟩ := hQ801
  have N802 := Fr.app N791 N801q
  refine Go.step (fun _ k => st801 _ k) ?_
  show Go p e below s _ _ _ T801 (mkF m 47 #[vr b113, vr b738, .val (.int (ar + ci1))] [(.ref x796), (.ref b738)])
  have f803 := (f786.keep K790)
  have f804 := (f783.keep K790)
  have f805 := (f787.keep K790)
  have f806 := (f788.keep K790)
  have ne807 : b738 ≠ uu56 := Nat.ne_of_lt (Nat.lt_of_lt_of_le f786.lt P790_3)
  obtain ⟨cq808, kq808, q808a, q808b, q808c⟩ := isOf hZ eq801 f803
  obtain ⟨_, _, ⟨T808, L808, k808, n808⟩, -, X808, ⟨Lc808, hQ808, l808, y808, z808⟩, st808⟩ := X801.interfaceBack hx (xi := xm33) (y := xm32) hown (mvT hZ (tw195 hw)) (mvT hZ (tw196 hw)) (mvT hZ (tw197 hw)) (mvT hZ (tw198 hw)) (mvT hZ (tw199 hw)) (mvT hZ (tw200 hw)) (mvT hZ (tw201 hw)) (mvT hZ (tw202 hw)) (by decide) (backOf (W := 0) (rm_ArrayList_add_2 l Z a0 hw [] b738 x796 uu56 uu57 x744 x753 x779 moa T790.heap n0 f799 P790_0 f803 g764 P790_1 P790_2 P790_5 P790_4 M_moa f804 f805 f806 f800 (Ne.symm ne807)) hZ (tw203 hw) (tw51 hw) (by decide) (by decide)) q808a q808b q808c (g := (mkF m 47 #[vr b113, vr b738, .val (.int (ar + ci1))] [(.ref x796), (.ref b738)])) rfl (by rw [hml]; rfl) (Steps.refl _) (argsL := [(.ref x796)]) (rest := []) (lenOf pd_21 rfl) rfl (Nat.le_of_eq rfl) (hb hby d11_47) (fun _ _ => ⟨rfl, eq801, (by decide : 5 + 1 ≤ _), (by decide : 12 + 4 ≤ _)⟩)
  dsimp only [Pt.U, Pt.locs, Pt.cells, Pt.slots] at X808 l808 y808 z808 st808 hQ808
  subst l808 y808 z808
  obtain ⟨uu39, uu40, rfl, N808q, K808, P808_0, P808_1, P808_2, P808_3, P808_4, P808_5, P808_6⟩ := hQ808
  have N809 := Fr.app N802 N808q
  refine Go.step (fun _ k => st808.trans (XS.pop X808.here hx rfl (hb hby d11_52) rfl rfl (XS.iinc X808.here hx rfl (hb hby d11_53) rfl (l' := #[vr b113, vr b738, .val (.int ((ar + ci1) + ci1))]) rfl (XS.goto X808.here hx rfl (pc0 := 56) (pc' := 30) rfl (hb hby d11_56) (by decide) (by decide) (XS.iloadN X808.here hx rfl (hb hby d11_30) rfl (XS.aloadN X808.here hx rfl (hb hby d11_31) rfl rfl k)))))) ?_
  show Go p e below s _ _ _ T808 (mkF m 32 #[vr b113, vr b738, .val (.int ((ar + ci1) + ci1))] [(.ref b113), (.int ((ar + ci1) + ci1))])
  have f810 := (f792.keep K808 (ninS ne772 nin0))
  obtain ⟨T811, X811, e811, st811⟩ := getF X808 hx hZ hown (host := "") (Or.inl (tw35 hw)) Via.refl rfl f810 (g := (mkF m 32 #[vr b113, vr b738, .val (.int ((ar + ci1) + ci1))] [(.ref b113), (.int ((ar + ci1) + ci1))])) rfl rfl (hb hby d11_32)
  refine Go.step (fun _ k => st811 _ (XS.icmpNo X811.here hx rfl (hb hby d11_35) rfl (tlt hl2).2.1 (XS.aloadN X811.here hx rfl (hb hby d11_38) rfl rfl (XS.aloadN X811.here hx rfl (hb hby d11_39) rfl rfl k)))) ?_
  show Go p e below s _ _ _ T811 (mkF m 40 #[vr b113, vr b738, .val (.int ((ar + ci1) + ci1))] [(.ref b113), (.ref b738)])
  have f812 := (f794.keep K808 (ninS ne772 nin0))
  obtain ⟨T813, X813, e813, st813⟩ := getF X811 hx hZ hown (host := "") (Or.inl (tw37 hw)) Via.refl e811 f812 (g := (mkF m 40 #[vr b113, vr b738, .val (.int ((ar + ci1) + ci1))] [(.ref b113), (.ref b738)])) rfl rfl (hb hby d11_40)
  refine Go.step (fun _ k => st813 _ (XS.iloadN X813.here hx rfl (hb hby d11_43) rfl k)) ?_
  show Go p e below s _ _ _ T813 (mkF m 44 #[vr b113, vr b738, .val (.int ((ar + ci1) + ci1))] [(.int ((ar + ci1) + ci1)), (.ref hot), (.ref b738)])
  have f816 := (f798.keep K808 (allS g764 all0))
  have f817 := (Nat.le_trans f799 K808.1)
  have f818 := (((((E_x814.ext E738).keep K758).keep K770).keep K790).keep K808)
  obtain ⟨_, _, ⟨T819, L819, k819, n819⟩, -, X819, ⟨Lc819, hQ819, l819, y819, z819⟩, st819⟩ := Jvm.LawKit.callS X813 hx (y := xm30) hown (mvT hZ (tw188 hw)) (mvT hZ (tw189 hw)) (mvT hZ (tw54 hw)) (mvT hZ (tw190 hw)) (by decide) (backOf (W := 1) (rm_room l Z a0 hw [] hot kk (((ar + ci1) + ci1)) x814 hg lg lc al ea kea els T808.heap n0 f817 f816 Z_S_GOOD Z_S_GOOD_HOTEL Z_E_lg Z_F_first_lg Z_F_ordinal_lg Z_S_CHEAP_HOTEL Z_E_lc Z_F_first_lc Z_F_ordinal_lc Z_S_ALL Z_E_al Z_F_elements_al Z_A_ea f818 hKk hI2 pk_815) hZ (tw190 hw) (tw54 hw) (by decide) (by decide)) (g := (mkF m 44 #[vr b113, vr b738, .val (.int ((ar + ci1) + ci1))] [(.int ((ar + ci1) + ci1)), (.ref hot), (.ref b738)])) rfl (by rw [hml]; rfl) (argsL := [(.ref hot), (.int ((ar + ci1) + ci1))]) (rest := [(.ref b738)]) (lenOf pd_16 rfl) rfl (Nat.le_of_eq rfl) (hb hby d11_44) (fun _ _ => ⟨rfl, e813, (by decide : 6 + 0 ≤ _), (by decide : 16 + 0 ≤ _)⟩)
  dsimp only [Pt.U, Pt.locs, Pt.cells, Pt.slots] at X819 l819 y819 z819 st819 hQ819
  subst l819 y819 z819
  obtain ⟨rfl, N819q, eq819⟩ := hQ819
  have N820 := Fr.app N809 N819q
  refine Go.step (fun _ k => st819 _ k) ?_
  show Go p e below s _ _ _ T819 (mkF m 47 #[vr b113, vr b738, .val (.int ((ar + ci1) + ci1))] [(.ref x814), (.ref b738)])
  have ne911 : b738 ≠ uu39 := Nat.ne_of_lt (Nat.lt_of_lt_of_le f803.lt P808_3)
  have f926 := (f803.keep K808)
  have f927 := (f800.keep K808)
  have f928 := (f804.keep K808)
  have f929 := (f805.keep K808)
  have f930 := (f806.keep K808)
  obtain ⟨cq931, kq931, q931a, q931b, q931c⟩ := isOf hZ eq819 f926
  obtain ⟨_, _, ⟨T931, L931, k931, n931⟩, -, X931, ⟨Lc931, hQ931, l931, y931, z931⟩, st931⟩ := X819.interfaceBack hx (xi := xm33) (y := xm32) hown (mvT hZ (tw195 hw)) (mvT hZ (tw196 hw)) (mvT hZ (tw197 hw)) (mvT hZ (tw198 hw)) (mvT hZ (tw199 hw)) (mvT hZ (tw200 hw)) (mvT hZ (tw201 hw)) (mvT hZ (tw202 hw)) (by decide) (backOf (W := 0) (rm_ArrayList_add_4 l Z a0 hw [] b738 x814 uu39 uu40 x744 x753 x779 x796 moa T808.heap n0 f817 P808_0 f926 g764 P808_1 P808_2 P808_5 P808_4 M_moa f927 f928 f929 f930 f818 (Ne.symm ne911)) hZ (tw203 hw) (tw51 hw) (by decide) (by decide)) q931a q931b q931c (g := (mkF m 47 #[vr b113, vr b738, .val (.int ((ar + ci1) + ci1))] [(.ref x814), (.ref b738)])) rfl (by rw [hml]; rfl) (Steps.refl _) (argsL := [(.ref x814)]) (rest := []) (lenOf pd_21 rfl) rfl (Nat.le_of_eq rfl) (hb hby d11_47) (fun _ _ => ⟨rfl, eq819, (by decide : 6 + 1 ≤ _), (by decide : 16 + 6 ≤ _)⟩)
  dsimp only [Pt.U, Pt.locs, Pt.cells, Pt.slots] at X931 l931 y931 z931 st931 hQ931
  subst l931 y931 z931
  obtain ⟨uu51, uu52, rfl, N931q, K931, P931_0, P931_1, P931_2, P931_3, P931_4, P931_5, P931_6⟩ := hQ931
  have N932 := Fr.app N820 N931q
  refine Go.step (fun _ k => st931.trans (XS.pop X931.here hx rfl (hb hby d11_52) rfl rfl (XS.iinc X931.here hx rfl (hb hby d11_53) rfl (l' := #[vr b113, vr b738, .val (.int (((ar + ci1) + ci1) + ci1))]) rfl (XS.goto X931.here hx rfl (pc0 := 56) (pc' := 30) rfl (hb hby d11_56) (by decide) (by decide) (XS.iloadN X931.here hx rfl (hb hby d11_30) rfl (XS.aloadN X931.here hx rfl (hb hby d11_31) rfl rfl k)))))) ?_
  show Go p e below s _ _ _ T931 (mkF m 32 #[vr b113, vr b738, .val (.int (((ar + ci1) + ci1) + ci1))] [(.ref b113), (.int (((ar + ci1) + ci1) + ci1))])
  have f933 := (f810.keep K931 (ninS ne772 nin0))
  obtain ⟨T934, X934, e934, st934⟩ := getF X931 hx hZ hown (host := "") (Or.inl (tw35 hw)) Via.refl rfl f933 (g := (mkF m 32 #[vr b113, vr b738, .val (.int (((ar + ci1) + ci1) + ci1))] [(.ref b113), (.int (((ar + ci1) + ci1) + ci1))])) rfl rfl (hb hby d11_32)
  refine Go.step (fun _ k => st934 _ (XS.icmpYes X934.here hx rfl (pc0 := 35) (pc' := 59) rfl (hb hby d11_35) rfl (flt hl3).2.1 (by decide) (by decide) (XS.aloadN X934.here hx rfl (hb hby d11_59) rfl rfl k))) ?_
  show Go p e below s _ _ _ T934 (mkF m 60 #[vr b113, vr b738, .val (.int (((ar + ci1) + ci1) + ci1))] [(.ref b738)])
  have z935 := Nat.le_trans (Nat.le_refl _) (Nat.le_of_eq g738.symm)
  have f936 := (((((((Keep.refl h0 []).ext E738).trans K758 all0).trans K770 (allS (Or.inr z935) all0)).trans K790 (allS (Or.inr z935) all0)).trans K808 (allS (Or.inr z935) all0)).trans K931 (allS (Or.inr z935) all0))
  have f937 := (f926.keep K931)
  have f938 := (Nat.le_trans (Nat.le_trans (Nat.le_trans (Nat.le_trans (Nat.le_trans (Nat.le_refl _) E738.1) K758.1) K770.1) K790.1) K808.1)
  have z939 := Nat.le_trans f938 P931_3
  have ne940 : b738 ≠ uu51 := Nat.ne_of_lt (Nat.lt_of_lt_of_le f926.lt P931_3)
  have f941 := (Nat.le_trans (Nat.le_trans (Nat.le_trans (Nat.le_trans (Nat.le_trans (Nat.le_trans (Nat.le_refl _) E738.1) K758.1) K770.1) K790.1) K808.1) K931.1)
  exact Go.retA X934 hx hlk Bd.returns rfl rfl (hb hby d11_60) e934 ⟨b738, uu51, uu52, rfl, N932, f936, z935, f937, P931_0, P931_2, P931_1, z939, P931_4, P931_5, P931_6, ne940⟩ (by decide) (by decide)

theorem ef_ArrayList_add_7 (m : MethodId) (x0 : Addr) (x1 : Addr) (x2 : Addr) (x3 : Int32) : entryFrame m #[(.ref x0), (.ref x1), (.ref x2), (.int x3)] 4 = mkF m 0 #[vr x0, vr x1, vr x2, vi x3] [] := by first | (simp [entryFrame, mkF, argsToLocals, Value.category]; done) | rfl
def Q_ArrayList_add_7 (Z : State) (b979 : Addr) (x1074 : Addr) (uu58 : Addr) (uu59 : ClassId) (x985 : Addr) (x994 : Addr) (x1020 : Addr) (x1037 : Addr) (x1055 : Addr) (h0 : Heap) (n0 : Nat) (v : Option Value) (h : Heap) (L : List Loc) : Prop := v = none ∧ Fr n0 L ∧ Keep h0 h [uu58, b979] ∧ Arv Z h uu58 uu59 (.object xs39) ci6 [(.ref x985), (.ref x994), (.ref x1020), (.ref x1037), (.ref x1055), (.ref x1074)] .null ∧ Fld Z h b979 xs35 "size" "I" cv6 ∧ Fld Z h b979 xs29 "modCount" "I" cv4 ∧ Fld Z h b979 xs35 "elementData" xs34 (.ref uu58)
set_option maxRecDepth 65536 in
set_option maxHeartbeats 40000000 in
theorem rm_ArrayList_add_7 (l : Launch) (Z : State) (a0 : Array Value) (hw : ∀ d ∈ tables_1, d.before a0 Z = true) (ws : List Jvm.Cond) (b979 : Addr) (x1074 : Addr) (uu58 : Addr) (uu59 : ClassId) (x985 : Addr) (x994 : Addr) (x1020 : Addr) (x1037 : Addr) (x1055 : Addr) (h0 : Heap) (n0 : Nat) (Z0 : n0 ≤ h0.size) (V_b843_865_870_885_890_920_1068 : Arv Z h0 uu58 uu59 (.object xs39) ci6 [(.ref x985), (.ref x994), (.ref x1020), (.ref x1037), (.ref x1055), .null] .null) (ovr_b843_865_870_885_890_920_1068 : Ovr Z uu59 xs39) (E_x1074 : Exa Z h0 x1074 xs17) (g_b843_865_870_885_890_920_1068 : n0 ≤ uu58) (E_b979 : Exa Z h0 b979 xs35) (F_size_b979 : Fld Z h0 b979 xs35 "size" "I" cv5) (ne_b979_b843_865_870_885_890_920_1068 : b979 ≠ uu58) (g_b979 : n0 ≤ b979) (F_modCount_b979 : Fld Z h0 b979 xs29 "modCount" "I" cv4) (F_elementData_b979 : Fld Z h0 b979 xs35 "elementData" xs34 (.ref uu58)) :
    MetFree l xm31 (head1 (Jvm.Cond.code xm31 jdk_38_method_24_code 4 none :: ws) xr35) (fun a U => a = #[(.ref b979), (.ref x1074), (.ref uu58), cv5] ∧ Z.Warmed39 U.vm ∧ U.heap = h0) (fun _ _ _ _ _ => True) (fun _ U o U' => ∃ v L, o = .returned v ∧ Q_ArrayList_add_7 Z b979 x1074 uu58 uu59 x985 x994 x1020 x1037 x1055 h0 n0 v U'.heap L ∧ FrameEnd U o U' L xr35.cells xr35.slots) := by
  refine MetFree.of_bodySF (plainFor_of_name pn_13) hisR ?_
  intro p e s m args below meth c s₁ Bd hml0 hP hK
  obtain ⟨rfl, hZ, hh⟩ := hP
  have hx := Bd.exec
  have hby := Bd.bytes
  have hlk : meth.locks = false := BodyLoose.notSynchronized Bd
  have hml : c.maxLocals = 4 := hml0
  have hown : s.vm.findClass xs35 = some m.cls := findClass_of_methodNamed Bd.named
  have hnm := (name_of_methodNamed Bd.named Bd.method).1
  have X0 : Stand p l e xr35 s m #[(.ref b979), (.ref x1074), (.ref uu58), cv5] below meth c s₁ [] 0 0 := Stand.of_body Bd
  have e0 : s₁.heap = h0 := by rw [← hh, Bd.state]; rfl
  have N0 := Fr.nil n0
  show Go p e below s (Q_ArrayList_add_7 Z b979 x1074 uu58 uu59 x985 x994 x1020 x1037 x1055 h0 n0) xr35.cells xr35.slots s₁ (entryFrame m #[(.ref b979), (.ref x1074), (.ref uu58), cv5] 4)
  refine Go.cast (ef_ArrayList_add_7 m b979 x1074 uu58 ci5) ?_
  show Go p e below s _ _ _ s₁ (mkF m 0 #[vr b979, vr x1074, vr uu58, .val cv5] [])
  refine Go.step (fun _ k => XS.iloadN X0.here hx rfl (hb hby d24_0) rfl (XS.aloadN X0.here hx rfl (hb hby d24_1) rfl rfl k)) ?_
  show Go p e below s _ _ _ s₁ (mkF m 2 #[vr b979, vr x1074, vr uu58, .val cv5] [(.ref uu58), cv5])
  obtain ⟨cl1089, Ar1089, -, Sz1089, Ng1089, -, -⟩ := id V_b843_865_870_885_890_920_1068
  have aln1089 := X0.arraylength hx (by rw [e0]; exact Ar1089.1) (State.isArrayOf_alike hZ.alike Ar1089.2.1) (g := (mkF m 2 #[vr b979, vr x1074, vr uu58, .val cv5] [(.ref uu58), cv5])) rfl rfl (hb hby d24_2)
  rw [len_of Sz1089 Ng1089] at aln1089
  refine Go.step (fun _ k => aln1089 _ (XS.icmpYes X0.here hx rfl (pc0 := 3) (pc' := 11) rfl (hb hby d24_3) rfl (feq (by decide)).2 (by decide) (by decide) (XS.aloadN X0.here hx rfl (hb hby d24_11) rfl rfl (XS.iloadN X0.here hx rfl (hb hby d24_12) rfl (XS.aloadN X0.here hx rfl (hb hby d24_13) rfl rfl k))))) ?_
  show Go p e below s _ _ _ s₁ (mkF m 14 #[vr b979, vr x1074, vr uu58, .val cv5] [(.ref x1074), cv5, (.ref uu58)])
  obtain ⟨cl1090, Ar1090, qq1090, Sz1090, Ng1090, Hs1090, Ft1090⟩ := id V_b843_865_870_885_890_920_1068
  have in1090 : ¬ (ci5 < 0 ∨ cl1090.slots.size ≤ (ci5).toNatClampNeg) := (inb_of Sz1090 ⟨by decide, by decide⟩)
  obtain ⟨T1090, h1090, X1090, e1090, W1090, st1090⟩ := stR X0 hx hZ e0 Ar1090 (j := ci5) in1090 rfl (Sto.ofV Ar1090 qq1090 ovr_b843_865_870_885_890_920_1068 (Ins.of_exa E_x1074 (tw157 hw))) (g := (mkF m 14 #[vr b979, vr x1074, vr uu58, .val cv5] [(.ref x1074), cv5, (.ref uu58)])) rfl rfl (hb hby d24_14)
  have f1092 : Arv Z h1090 uu58 uu59 (.object xs39) ci6 [(.ref x985), (.ref x994), (.ref x1020), (.ref x1037), (.ref x1055), (.ref x1074)] .null := Arv.set Ar1090 qq1090 Sz1090 Ng1090 Hs1090 Ft1090 rfl W1090 5 rfl (Nat.le_of_ble_eq_true rfl)
  have N1093 := Fr.snoc X1090 N0 g_b843_865_870_885_890_920_1068
  refine Go.step (fun _ k => st1090 _ (XS.aloadN X1090.here hx rfl (hb hby d24_15) rfl rfl (XS.iloadN X1090.here hx rfl (hb hby d24_16) rfl (XS.iconst X1090.here hx rfl (hb hby d24_17) (XS.iadd X1090.here hx rfl (hb hby d24_18) rfl k))))) ?_
  show Go p e below s _ _ _ T1090 (mkF m 19 #[vr b979, vr x1074, vr uu58, .val cv5] [cv6, (.ref b979)])
  have f1095 := (F_size_b979.other W1090 (Or.inl ne_b979_b843_865_870_885_890_920_1068))
  have f1096 := (E_b979.wr W1090)
  obtain ⟨T1097, h1097, X1097, e1097, W1097, st1097⟩ := putF X1090 hx hZ hown (host := "") (Or.inl (tw158 hw)) Via.refl e1090 f1095 f1096 (Or.inl (tw159 hw)) (tw50 hw) (ty := .int) (by decide) rfl rfl (g := (mkF m 19 #[vr b979, vr x1074, vr uu58, .val cv5] [cv6, (.ref b979)])) rfl rfl (hb hby d24_19)
  have f1098 := f1095.same W1097
  have N1099 := Fr.snoc X1097 N1093 g_b979
  refine Go.step (fun _ k => st1097 _ k) ?_
  show Go p e below s _ _ _ T1097 (mkF m 22 #[vr b979, vr x1074, vr uu58, .val cv5] [])
  have f1100 := (((Keep.refl h0 [uu58, b979]).wr W1090 (Or.inl (List.mem_of_getElem? (i := 0) rfl))).wr W1097 (Or.inl (List.mem_of_getElem? (i := 1) rfl)))
  have f1101 := (f1092.other W1097 (Ne.symm ne_b979_b843_865_870_885_890_920_1068))
  have f1102 := ((F_modCount_b979.other W1090 (Or.inl ne_b979_b843_865_870_885_890_920_1068)).other W1097 (Or.inr (slot_ne (Or.inl (tw143 hw)) (Or.inl (tw159 hw)) (by decide) (t := .int) (t' := .int) (by decide) (by decide))))
  have f1103 := ((F_elementData_b979.other W1090 (Or.inl ne_b979_b843_865_870_885_890_920_1068)).other W1097 (Or.inr (slot_ne (Or.inl (tw187 hw)) (Or.inl (tw159 hw)) (by decide) (t := (.array (.object xs39))) (t' := .int) (by decide) (by decide))))
  have f1104 := (Nat.le_trans (Nat.le_trans (Nat.le_refl _) (Keep.of_wr W1090).1) (Keep.of_wr W1097).1)
  exact Go.retV X1097 hx hlk Bd.returns (hb hby d24_22) e1097 ⟨rfl, N1099, f1100, f1101, f1098, f1102, f1103⟩ (by decide) (by decide)

theorem ef_ArrayList_add_6 (m : MethodId) (x0 : Addr) (x1 : Addr) : entryFrame m #[(.ref x0), (.ref x1)] 2 = mkF m 0 #[vr x0, vr x1] [] := by first | (simp [entryFrame, mkF, argsToLocals, Value.category]; done) | rfl
def Q_ArrayList_add_6 (Z : State) (b979 : Addr) (x1074 : Addr) (uu58 : Addr) (uu59 : ClassId) (x985 : Addr) (x994 : Addr) (x1020 : Addr) (x1037 : Addr) (x1055 : Addr) (h0 : Heap) (n0 : Nat) (v : Option Value) (h : Heap) (L : List Loc) : Prop := v = some cv1 ∧ Fr n0 L ∧ Keep h0 h [b979, uu58] ∧ Fld Z h b979 xs29 "modCount" "I" cv4 ∧ Fld Z h b979 xs35 "elementData" xs34 (.ref uu58) ∧ Fld Z h b979 xs35 "size" "I" cv6 ∧ Arv Z h uu58 uu59 (.object xs39) ci6 [(.ref x985), (.ref x994), (.ref x1020), (.ref x1037), (.ref x1055), (.ref x1074)] .null
set_option maxRecDepth 65536 in
set_option maxHeartbeats 40000000 in
theorem rm_ArrayList_add_6 (l : Launch) (Z : State) (a0 : Array Value) (hw : ∀ d ∈ tables_1, d.before a0 Z = true) (ws : List Jvm.Cond) (b979 : Addr) (x1074 : Addr) (uu58 : Addr) (uu59 : ClassId) (x985 : Addr) (x994 : Addr) (x1020 : Addr) (x1037 : Addr) (x1055 : Addr) (h0 : Heap) (n0 : Nat) (Z0 : n0 ≤ h0.size) (F_modCount_b979 : Fld Z h0 b979 xs29 "modCount" "I" cv3) (E_b979 : Exa Z h0 b979 xs35) (g_b979 : n0 ≤ b979) (F_elementData_b979 : Fld Z h0 b979 xs35 "elementData" xs34 (.ref uu58)) (F_size_b979 : Fld Z h0 b979 xs35 "size" "I" cv5) (V_b843_865_870_885_890_920_1068 : Arv Z h0 uu58 uu59 (.object xs39) ci6 [(.ref x985), (.ref x994), (.ref x1020), (.ref x1037), (.ref x1055), .null] .null) (ovr_b843_865_870_885_890_920_1068 : Ovr Z uu59 xs39) (E_x1074 : Exa Z h0 x1074 xs17) (g_b843_865_870_885_890_920_1068 : n0 ≤ uu58) (ne_b979_b843_865_870_885_890_920_1068 : b979 ≠ uu58) :
    MetFree l xm32 (head1 (Jvm.Cond.code xm32 jdk_38_method_25_code 2 (some .boolean) :: ws) xr34) (fun a U => a = #[(.ref b979), (.ref x1074)] ∧ Z.Warmed39 U.vm ∧ U.heap = h0) (fun _ _ _ _ _ => True) (fun _ U o U' => ∃ v L, o = .returned v ∧ Q_ArrayList_add_6 Z b979 x1074 uu58 uu59 x985 x994 x1020 x1037 x1055 h0 n0 v U'.heap L ∧ FrameEnd U o U' L xr34.cells xr34.slots) := by
  refine MetFree.of_bodySF (plainFor_of_name pn_13) hisR ?_
  intro p e s m args below meth c s₁ Bd hml0 hP hK
  obtain ⟨rfl, hZ, hh⟩ := hP
  have hx := Bd.exec
  have hby := Bd.bytes
  have hlk : meth.locks = false := BodyLoose.notSynchronized Bd
  have hml : c.maxLocals = 2 := hml0
  have hown : s.vm.findClass xs35 = some m.cls := findClass_of_methodNamed Bd.named
  have hnm := (name_of_methodNamed Bd.named Bd.method).1
  have X0 : Stand p l e xr34 s m #[(.ref b979), (.ref x1074)] below meth c s₁ [] 0 0 := Stand.of_body Bd
  have e0 : s₁.heap = h0 := by rw [← hh, Bd.state]; rfl
  have N0 := Fr.nil n0
  show Go p e below s (Q_ArrayList_add_6 Z b979 x1074 uu58 uu59 x985 x994 x1020 x1037 x1055 h0 n0) xr34.cells xr34.slots s₁ (entryFrame m #[(.ref b979), (.ref x1074)] 2)
  refine Go.cast (ef_ArrayList_add_6 m b979 x1074) ?_
  show Go p e below s _ _ _ s₁ (mkF m 0 #[vr b979, vr x1074] [])
  refine Go.step (fun _ k => XS.aloadN X0.here hx rfl (hb hby d23_0) rfl rfl (XS.dup X0.here hx rfl (hb hby d23_1) rfl rfl k)) ?_
  show Go p e below s _ _ _ s₁ (mkF m 2 #[vr b979, vr x1074] [(.ref b979), (.ref b979)])
  obtain ⟨T1081, X1081, e1081, st1081⟩ := getF X0 hx hZ hown (host := "") (Or.inl (tw204 hw)) (Via.of (tw205 hw)) e0 F_modCount_b979 (g := (mkF m 2 #[vr b979, vr x1074] [(.ref b979), (.ref b979)])) rfl rfl (hb hby d23_2)
  refine Go.step (fun _ k => st1081 _ (XS.iconst X1081.here hx rfl (hb hby d23_5) (XS.iadd X1081.here hx rfl (hb hby d23_6) rfl k))) ?_
  show Go p e below s _ _ _ T1081 (mkF m 7 #[vr b979, vr x1074] [cv4, (.ref b979)])
  obtain ⟨T1082, h1082, X1082, e1082, W1082, st1082⟩ := putF X1081 hx hZ hown (host := "") (Or.inl (tw204 hw)) (Via.of (tw205 hw)) e1081 F_modCount_b979 E_b979 (Or.inl (tw143 hw)) (tw50 hw) (ty := .int) (by decide) rfl rfl (g := (mkF m 7 #[vr b979, vr x1074] [cv4, (.ref b979)])) rfl rfl (hb hby d23_7)
  have f1083 := F_modCount_b979.same W1082
  have N1084 := Fr.snoc X1082 N0 g_b979
  refine Go.step (fun _ k => st1082 _ (XS.aloadN X1082.here hx rfl (hb hby d23_10) rfl rfl (XS.aloadN X1082.here hx rfl (hb hby d23_11) rfl rfl (XS.aloadN X1082.here hx rfl (hb hby d23_12) rfl rfl k)))) ?_
  show Go p e below s _ _ _ T1082 (mkF m 13 #[vr b979, vr x1074] [(.ref b979), (.ref x1074), (.ref b979)])
  have f1085 := (F_elementData_b979.other W1082 (Or.inr (slot_ne (Or.inl (tw187 hw)) (Or.inl (tw143 hw)) (by decide) (t := (.array (.object xs39))) (t' := .int) (by decide) (by decide))))
  obtain ⟨T1086, X1086, e1086, st1086⟩ := getF X1082 hx hZ hown (host := "") (Or.inl (tw186 hw)) Via.refl e1082 f1085 (g := (mkF m 13 #[vr b979, vr x1074] [(.ref b979), (.ref x1074), (.ref b979)])) rfl rfl (hb hby d23_13)
  refine Go.step (fun _ k => st1086 _ (XS.aloadN X1086.here hx rfl (hb hby d23_16) rfl rfl k)) ?_
  show Go p e below s _ _ _ T1086 (mkF m 17 #[vr b979, vr x1074] [(.ref b979), (.ref uu58), (.ref x1074), (.ref b979)])
  have f1087 := (F_size_b979.other W1082 (Or.inr (slot_ne (Or.inl (tw159 hw)) (Or.inl (tw143 hw)) (by decide) (t := .int) (t' := .int) (by decide) (by decide))))
  obtain ⟨T1088, X1088, e1088, st1088⟩ := getF X1086 hx hZ hown (host := "") (Or.inl (tw158 hw)) Via.refl e1086 f1087 (g := (mkF m 17 #[vr b979, vr x1074] [(.ref b979), (.ref uu58), (.ref x1074), (.ref b979)])) rfl rfl (hb hby d23_17)
  refine Go.step (fun _ k => st1088 _ k) ?_
  show Go p e below s _ _ _ T1088 (mkF m 20 #[vr b979, vr x1074] [cv5, (.ref uu58), (.ref x1074), (.ref b979)])
  have f1105 := (Nat.le_trans Z0 (Keep.of_wr W1082).1)
  have f1106 := (V_b843_865_870_885_890_920_1068.other W1082 (Ne.symm ne_b979_b843_865_870_885_890_920_1068))
  have f1107 := (E_x1074.wr W1082)
  have f1108 := (E_b979.wr W1082)
  obtain ⟨cq1109, q1109, q1109'⟩ := f1108.cell
  obtain ⟨_, _, ⟨T1109, L1109, k1109, n1109⟩, -, X1109, ⟨Lc1109, hQ1109, l1109, y1109, z1109⟩, st1109⟩ := X1088.privateBack hx (y := xm31) hown (mvT hZ (tw206 hw)) (mvT hZ (tw207 hw)) (mvT hZ (tw209 hw)) (Cond.privateMethod_at (mvP hZ (tw208 hw) (args := #[]))) (mvT hZ (tw210 hw)) (by decide) (backOf (W := 0) (rm_ArrayList_add_7 l Z a0 hw [] b979 x1074 uu58 uu59 x985 x994 x1020 x1037 x1055 h1082 n0 f1105 f1106 ovr_b843_865_870_885_890_920_1068 f1107 g_b843_865_870_885_890_920_1068 f1108 f1087 ne_b979_b843_865_870_885_890_920_1068 g_b979 f1083 f1085) hZ (tw210 hw) (tw51 hw) (by decide) (by decide)) (g := (mkF m 20 #[vr b979, vr x1074] [cv5, (.ref uu58), (.ref x1074), (.ref b979)])) rfl (by rw [hml]; rfl) (Steps.refl _) (a := b979) (by rw [e1088]; exact q1109) q1109' (argsL := [(.ref x1074), (.ref uu58), cv5]) (rest := []) (lenOf pd_20 rfl) rfl (Nat.le_of_eq rfl) (hb hby d23_20) (fun _ _ => ⟨rfl, e1088, (by decide : 0 + 0 ≤ _), (by decide : 0 + 0 ≤ _)⟩)
  dsimp only [Pt.U, Pt.locs, Pt.cells, Pt.slots] at X1109 l1109 y1109 z1109 st1109 hQ1109
  subst l1109 y1109 z1109
  obtain ⟨rfl, N1109q, K1109, P1109_0, P1109_1, P1109_2, P1109_3⟩ := hQ1109
  have N1110 := Fr.app N1084 N1109q
  refine Go.step (fun _ k => st1109.trans (XS.iconst X1109.here hx rfl (hb hby d23_23) k)) ?_
  show Go p e below s _ _ _ T1109 (mkF m 24 #[vr b979, vr x1074] [cv1])
  have f1111 := (((Keep.refl h0 [b979, uu58]).wr W1082 (Or.inl (List.mem_of_getElem? (i := 0) rfl))).trans K1109 (allS (Or.inl (List.mem_of_getElem? (i := 1) rfl)) (allS (Or.inl (List.mem_of_getElem? (i := 0) rfl)) all0)))
  have f1112 := (Nat.le_trans (Nat.le_trans (Nat.le_refl _) (Keep.of_wr W1082).1) K1109.1)
  exact Go.retN X1109 hx hlk (t := .boolean) Bd.returns (by simp) (hb hby d23_24) rfl ⟨rfl, N1110, f1111, P1109_2, P1109_3, P1109_1, P1109_0⟩ (by decide) (by decide)

theorem ef_Trip_goods_3 (m : MethodId) (x0 : Addr) : entryFrame m #[(.ref x0)] 3 = mkF m 0 #[vr x0, .unset, .unset] [] := by first | (simp [entryFrame, mkF, argsToLocals, Value.category]; done) | rfl
def Q_Trip_goods_3 (Z : State) (b113 : Addr) (ar : Int32) (els : List Value) (x985 : Addr) (dp : Int32) (x994 : Addr) (m12 : Addr) (mal : Addr) (moa : Addr) (em : Addr) (hot : Addr) (kk : Int32) (x1020 : Addr) (hg : Addr) (x1037 : Addr) (x1055 : Addr) (x1074 : Addr) (li : Addr) (al : Addr) (ea : Addr) (kea : ClassId) (lo : Addr) (lg : Addr) (lc : Addr) (h0 : Heap) (n0 : Nat) (v : Option Value) (h : Heap) (L : List Loc) : Prop := ∃ (b979 : Addr) (uu58 : Addr) (uu59 : ClassId), v = some (.ref b979) ∧ Fr n0 L ∧ Keep h0 h [] ∧ h0.size ≤ b979 ∧ Exa Z h b979 xs35 ∧ Fld Z h b979 xs29 "modCount" "I" cv4 ∧ Fld Z h b979 xs35 "size" "I" cv6 ∧ Fld Z h b979 xs35 "elementData" xs34 (.ref uu58) ∧ h0.size ≤ uu58 ∧ Exa Z h uu58 xs34 ∧ Arv Z h uu58 uu59 (.object xs39) ci6 [(.ref x985), (.ref x994), (.ref x1020), (.ref x1037), (.ref x1055), (.ref x1074)] .null ∧ Ovr Z uu59 xs39 ∧ b979 ≠ uu58
set_option maxRecDepth 65536 in
set_option maxHeartbeats 40000000 in
theorem rm_Trip_goods_3 (l : Launch) (Z : State) (a0 : Array Value) (hw : ∀ d ∈ tables_1, d.before a0 Z = true) (ws : List Jvm.Cond) (b113 : Addr) (ar : Int32) (els : List Value) (x985 : Addr) (dp : Int32) (x994 : Addr) (m12 : Addr) (mal : Addr) (moa : Addr) (em : Addr) (hot : Addr) (kk : Int32) (x1020 : Addr) (hg : Addr) (x1037 : Addr) (x1055 : Addr) (x1074 : Addr) (li : Addr) (al : Addr) (ea : Addr) (kea : ClassId) (lo : Addr) (lg : Addr) (lc : Addr) (h0 : Heap) (n0 : Nat) (Z0 : n0 ≤ h0.size) (F_arrival_b113 : Fld Z h0 b113 xs18 "arrival" "I" (.int ar)) (pk_986 : (els : List Value).getD ((((ci0 * ci4) + ar) - ci1)).toNatClampNeg .null = .ref x985) (har : own_I ar) (O0 : Old Z n0 h0) (Z_S_INFLIGHT : Sta Z Z.heap xs11 "INFLIGHT" xs10 (.ref li)) (Z_E_li : Exa Z Z.heap li xs11) (Z_F_first_li : Fld Z Z.heap li xs11 "first" "I" cv1) (Z_F_ordinal_li : Fld Z Z.heap li xs43 "ordinal" "I" cv0) (Z_S_ALL : Sta Z Z.heap xs17 "ALL" xs40 (.ref al)) (Z_E_al : Exa Z Z.heap al xs22) (Z_F_elements_al : Fld Z Z.heap al xs22 "elements" xs34 (.ref ea)) (Z_A_ea : Arv Z Z.heap ea kea (.object xs39) ci28 els .null) (E_x985 : Exa Z h0 x985 xs17) (F_departure_b113 : Fld Z h0 b113 xs18 "departure" "I" (.int dp)) (pk_995 : (els : List Value).getD ((((ci1 * ci4) + dp) - ci2)).toNatClampNeg .null = .ref x994) (hO : own_O dp) (Z_S_OUTFLIGHT : Sta Z Z.heap xs11 "OUTFLIGHT" xs10 (.ref lo)) (Z_E_lo : Exa Z Z.heap lo xs11) (Z_F_first_lo : Fld Z Z.heap lo xs11 "first" "I" cv2) (Z_F_ordinal_lo : Fld Z Z.heap lo xs43 "ordinal" "I" cv1) (E_x994 : Exa Z h0 x994 xs17) (M_m12 : Mir Z xs21 m12) (M_mal : Mir Z xs35 mal) (M_moa : Mir Z xs34 moa) (Z_S_EMPTY : Sta Z Z.heap xs26 "EMPTY" xs36 (.ref em)) (Z_E_em : Exa Z Z.heap em xs39) (ne_x994_em : x994 ≠ em) (ne_m12_mal : m12 ≠ mal) (hl0 : ar < dp) (F_hotel_b113 : Fld Z h0 b113 xs18 "hotel" xs13 (.ref hot)) (pk_1021 : (els : List Value).getD ((((kk * ci4) + ar) - ci1)).toNatClampNeg .null = .ref x1020) (hKk : own_K hg hot kk) (Z_S_GOOD : Sta Z Z.heap xs16 "GOOD" xs13 (.ref hg)) (Z_S_GOOD_HOTEL : Sta Z Z.heap xs11 "GOOD_HOTEL" xs10 (.ref lg)) (Z_E_lg : Exa Z Z.heap lg xs11) (Z_F_first_lg : Fld Z Z.heap lg xs11 "first" "I" cv1) (Z_F_ordinal_lg : Fld Z Z.heap lg xs43 "ordinal" "I" cv2) (Z_S_CHEAP_HOTEL : Sta Z Z.heap xs11 "CHEAP_HOTEL" xs10 (.ref lc)) (Z_E_lc : Exa Z Z.heap lc xs11) (Z_F_first_lc : Fld Z Z.heap lc xs11 "first" "I" cv1) (Z_F_ordinal_lc : Fld Z Z.heap lc xs43 "ordinal" "I" cv3) (E_x1020 : Exa Z h0 x1020 xs17) (hl1 : (ar + ci1) < dp) (pk_1038 : (els : List Value).getD ((((kk * ci4) + (ar + ci1)) - ci1)).toNatClampNeg .null = .ref x1037) (hI1 : own_I (ar + ci1)) (E_x1037 : Exa Z h0 x1037 xs17) (hl2 : ((ar + ci1) + ci1) < dp) (pk_1056 : (els : List Value).getD ((((kk * ci4) + ((ar + ci1) + ci1)) - ci1)).toNatClampNeg .null = .ref x1055) (hI2 : own_I ((ar + ci1) + ci1)) (E_x1055 : Exa Z h0 x1055 xs17) (hl3 : (((ar + ci1) + ci1) + ci1) < dp) (pk_1075 : (els : List Value).getD ((((kk * ci4) + (((ar + ci1) + ci1) + ci1)) - ci1)).toNatClampNeg .null = .ref x1074) (hI3 : own_I (((ar + ci1) + ci1) + ci1)) (E_x1074 : Exa Z h0 x1074 xs17) (hl4 : ¬ ((((ar + ci1) + ci1) + ci1) + ci1) < dp) :
    MetFree l xm23 (head1 (Jvm.Cond.code xm23 prog_82_method_5_code 3 (some (.object xs44)) :: ws) xr2) (fun a U => a = #[(.ref b113)] ∧ Z.Warmed39 U.vm ∧ U.heap = h0) (fun _ _ _ _ _ => True) (fun _ U o U' => ∃ v L, o = .returned v ∧ Q_Trip_goods_3 Z b113 ar els x985 dp x994 m12 mal moa em hot kk x1020 hg x1037 x1055 x1074 li al ea kea lo lg lc h0 n0 v U'.heap L ∧ FrameEnd U o U' L xr2.cells xr2.slots) := by
  refine MetFree.of_bodySF (plainFor_of_name pn_3) hisR ?_
  intro p e s m args below meth c s₁ Bd hml0 hP hK
  obtain ⟨rfl, hZ, hh⟩ := hP
  have hx := Bd.exec
  have hby := Bd.bytes
  have hlk : meth.locks = false := BodyLoose.notSynchronized Bd
  have hml : c.maxLocals = 3 := hml0
  have hown : s.vm.findClass xs18 = some m.cls := findClass_of_methodNamed Bd.named
  have hnm := (name_of_methodNamed Bd.named Bd.method).1
  have X0 : Stand p l e xr2 s m #[(.ref b113)] below meth c s₁ [] 0 0 := Stand.of_body Bd
  have e0 : s₁.heap = h0 := by rw [← hh, Bd.state]; rfl
  have N0 := Fr.nil n0
  show Go p e below s (Q_Trip_goods_3 Z b113 ar els x985 dp x994 m12 mal moa em hot kk x1020 hg x1037 x1055 x1074 li al ea kea lo lg lc h0 n0) xr2.cells xr2.slots s₁ (entryFrame m #[(.ref b113)] 3)
  refine Go.cast (ef_Trip_goods_3 m b113) ?_
  show Go p e below s _ _ _ s₁ (mkF m 0 #[vr b113, .unset, .unset] [])
  obtain ⟨T979, h979, X979, e979, E979, A979, D979, -, st979⟩ := newO X0 hx hZ hown (tw49 hw) (tw50 hw) (tw51 hw) e0 (g := (mkF m 0 #[vr b113, .unset, .unset] [])) rfl (hb hby d11_0) (by decide) (by decide)
  obtain ⟨b979, g979⟩ : ∃ z, z = h0.size := ⟨_, rfl⟩
  rw [← g979] at A979 D979 st979
  have f980 : Fld Z h979 b979 xs29 "modCount" "I" cv0 := D979 (Or.inl (tw143 hw)) (ty := .int) (by decide)
  have f981 : Fld Z h979 b979 xs35 "size" "I" cv0 := D979 (Or.inl (tw159 hw)) (ty := .int) (by decide)
  have f982 : Fld Z h979 b979 xs35 "elementData" xs34 .null := D979 (Or.inl (tw187 hw)) (ty := (.array (.object xs39))) (by decide)
  refine Go.step (fun _ k => st979 _ (XS.dup X979.here hx rfl (hb hby d11_3) rfl rfl (XS.aloadN X979.here hx rfl (hb hby d11_4) rfl rfl k))) ?_
  show Go p e below s _ _ _ T979 (mkF m 5 #[vr b113, .unset, .unset] [(.ref b113), (.ref b979), (.ref b979)])
  have f983 := (F_arrival_b113.ext E979)
  obtain ⟨T984, X984, e984, st984⟩ := getF X979 hx hZ hown (host := "") (Or.inl (tw33 hw)) Via.refl e979 f983 (g := (mkF m 5 #[vr b113, .unset, .unset] [(.ref b113), (.ref b979), (.ref b979)])) rfl rfl (hb hby d11_5)
  refine Go.step (fun _ k => st984 _ k) ?_
  show Go p e below s _ _ _ T984 (mkF m 8 #[vr b113, .unset, .unset] [(.int ar), (.ref b979), (.ref b979)])
  have f987 := (O0.ext E979)
  have f988 := (Nat.le_trans Z0 E979.1)
  have f989 := (E_x985.ext E979)
  obtain ⟨_, _, ⟨T990, L990, k990, n990⟩, -, X990, ⟨Lc990, hQ990, l990, y990, z990⟩, st990⟩ := Jvm.LawKit.callS X984 hx (y := xm9) hown (mvT hZ (tw52 hw)) (mvT hZ (tw53 hw)) (mvT hZ (tw54 hw)) (mvT hZ (tw55 hw)) (by decide) (backOf (W := 2) (rm_inflight l Z a0 hw [] ar x985 li al ea kea els h979 n0 f988 f987 Z_S_INFLIGHT Z_E_li Z_F_first_li Z_F_ordinal_li Z_S_ALL Z_E_al Z_F_elements_al Z_A_ea f989 har pk_986) hZ (tw55 hw) (tw54 hw) (by decide) (by decide)) (g := (mkF m 8 #[vr b113, .unset, .unset] [(.int ar), (.ref b979), (.ref b979)])) rfl (by rw [hml]; rfl) (argsL := [(.int ar)]) (rest := [(.ref b979), (.ref b979)]) (lenOf pd_8 rfl) rfl (Nat.le_of_eq rfl) (hb hby d11_8) (fun _ _ => ⟨rfl, e984, (by decide : 1 + 0 ≤ _), (by decide : 3 + 0 ≤ _)⟩)
  dsimp only [Pt.U, Pt.locs, Pt.cells, Pt.slots] at X990 l990 y990 z990 st990 hQ990
  subst l990 y990 z990
  obtain ⟨rfl, N990q, eq990⟩ := hQ990
  have N991 := Fr.app N0 N990q
  refine Go.step (fun _ k => st990 _ (XS.aloadN X990.here hx rfl (hb hby d11_11) rfl rfl k)) ?_
  show Go p e below s _ _ _ T990 (mkF m 12 #[vr b113, .unset, .unset] [(.ref b113), (.ref x985), (.ref b979), (.ref b979)])
  have f992 := (F_departure_b113.ext E979)
  obtain ⟨T993, X993, e993, st993⟩ := getF X990 hx hZ hown (host := "") (Or.inl (tw35 hw)) Via.refl eq990 f992 (g := (mkF m 12 #[vr b113, .unset, .unset] [(.ref b113), (.ref x985), (.ref b979), (.ref b979)])) rfl rfl (hb hby d11_12)
  refine Go.step (fun _ k => st993 _ k) ?_
  show Go p e below s _ _ _ T993 (mkF m 15 #[vr b113, .unset, .unset] [(.int dp), (.ref x985), (.ref b979), (.ref b979)])
  have f996 := (E_x994.ext E979)
  obtain ⟨_, _, ⟨T997, L997, k997, n997⟩, -, X997, ⟨Lc997, hQ997, l997, y997, z997⟩, st997⟩ := Jvm.LawKit.callS X993 hx (y := xm6) hown (mvT hZ (tw89 hw)) (mvT hZ (tw90 hw)) (mvT hZ (tw54 hw)) (mvT hZ (tw91 hw)) (by decide) (backOf (W := 3) (rm_outflight l Z a0 hw [] dp x994 lo al ea kea els h979 n0 f988 f987 Z_S_OUTFLIGHT Z_E_lo Z_F_first_lo Z_F_ordinal_lo Z_S_ALL Z_E_al Z_F_elements_al Z_A_ea f996 hO pk_995) hZ (tw91 hw) (tw54 hw) (by decide) (by decide)) (g := (mkF m 15 #[vr b113, .unset, .unset] [(.int dp), (.ref x985), (.ref b979), (.ref b979)])) rfl (by rw [hml]; rfl) (argsL := [(.int dp)]) (rest := [(.ref x985), (.ref b979), (.ref b979)]) (lenOf pd_8 rfl) rfl (Nat.le_of_eq rfl) (hb hby d11_15) (fun _ _ => ⟨rfl, e993, (by decide : 1 + 0 ≤ _), (by decide : 3 + 0 ≤ _)⟩)
  dsimp only [Pt.U, Pt.locs, Pt.cells, Pt.slots] at X997 l997 y997 z997 st997 hQ997
  subst l997 y997 z997
  obtain ⟨rfl, N997q, eq997⟩ := hQ997
  have N998 := Fr.app N991 N997q
  refine Go.step (fun _ k => st997 _ k) ?_
  show Go p e below s _ _ _ T997 (mkF m 18 #[vr b113, .unset, .unset] [(.ref x994), (.ref x985), (.ref b979), (.ref b979)])
  obtain ⟨_, _, ⟨T999, L999, k999, n999⟩, -, X999, ⟨Lc999, hQ999, l999, y999, z999⟩, st999⟩ := Jvm.LawKit.callS X997 hx (y := xm38) hown (mvT hZ (tw94 hw)) (mvT hZ (tw95 hw)) (mvT hZ (tw96 hw)) (mvT hZ (tw97 hw)) (by decide) (backOf (W := 2) (rm_List_of_0 l Z a0 hw [] x985 x994 h979 n0 f988) hZ (tw97 hw) (tw96 hw) (by decide) (by decide)) (g := (mkF m 18 #[vr b113, .unset, .unset] [(.ref x994), (.ref x985), (.ref b979), (.ref b979)])) rfl (by rw [hml]; rfl) (argsL := [(.ref x985), (.ref x994)]) (rest := [(.ref b979), (.ref b979)]) (lenOf pd_11 rfl) rfl (Nat.le_of_eq rfl) (hb hby d11_18) (fun _ _ => ⟨rfl, eq997, (by decide : 1 + 1 ≤ _), (by decide : 3 + 2 ≤ _)⟩)
  dsimp only [Pt.U, Pt.locs, Pt.cells, Pt.slots] at X999 l999 y999 z999 st999 hQ999
  subst l999 y999 z999
  obtain ⟨uu60, rfl, N999q, K999, P999_0, P999_1, P999_2, P999_3⟩ := hQ999
  have N1000 := Fr.app N998 N999q
  refine Go.step (fun _ k => st999 _ k) ?_
  show Go p e below s _ _ _ T999 (mkF m 21 #[vr b113, .unset, .unset] [(.ref uu60), (.ref b979), (.ref b979)])
  have f1001 := (f987.keep K999 all0)
  have f1002 := (Nat.le_trans f988 K999.1)
  have f1003 := (A979.keep K999)
  have f1004 := (f980.keep K999 nin0)
  have g1005 := Nat.le_trans Z0 (Nat.le_of_eq g979.symm)
  have f1006 := (f982.keep K999 nin0)
  have f1007 := (f981.keep K999 nin0)
  have f1008 := (f989.keep K999)
  have f1009 := (f996.keep K999)
  have ne1010 : b979 ≠ uu60 := Nat.ne_of_lt (Nat.lt_of_lt_of_le A979.lt P999_0)
  obtain ⟨_, _, ⟨T1011, L1011, k1011, n1011⟩, -, X1011, ⟨Lc1011, hQ1011, l1011, y1011, z1011⟩, st1011⟩ := X999.specialBack hx (y := xm18) rfl hown (mvT hZ (tw131 hw)) (mvT hZ (tw132 hw)) (mvT hZ (tw133 hw)) (by decide) (backOf (W := 1) (rm_ArrayList_new_0 l Z a0 hw [] b979 uu60 x994 em x985 m12 mal moa T999.heap n0 f1002 f1003 f1004 g1005 f1006 f1007 P999_1 P999_3 Z_S_EMPTY f1001 Z_E_em ne_x994_em P999_2 f1008 f1009 (Ne.symm ne1010) M_m12 M_mal ne_m12_mal M_moa) hZ (tw133 hw) (tw51 hw) (by decide) (by decide)) (g := (mkF m 21 #[vr b113, .unset, .unset] [(.ref uu60), (.ref b979), (.ref b979)])) rfl (by rw [hml]; rfl) (Steps.refl _) (a := b979) (argsL := [(.ref uu60)]) (rest := [(.ref b979)]) (lenOf pd_15 rfl) rfl (Nat.le_of_eq rfl) (hb hby d11_21) (fun _ _ => ⟨rfl, rfl, (by decide : 2 + 2 ≤ _), (by decide : 5 + 4 ≤ _)⟩)
  dsimp only [Pt.U, Pt.locs, Pt.cells, Pt.slots] at X1011 l1011 y1011 z1011 st1011 hQ1011
  subst l1011 y1011 z1011
  obtain ⟨uu61, uu62, rfl, N1011q, K1011, P1011_0, P1011_1, P1011_2, P1011_3, P1011_4, P1011_5, P1011_6⟩ := hQ1011
  have N1012 := Fr.app N1000 N1011q
  refine Go.step (fun _ k => st1011.trans (XS.astoreN X1011.here hx rfl (hb hby d11_24) rfl rfl (l' := #[vr b113, vr b979, .unset]) rfl (XS.aloadN X1011.here hx rfl (hb hby d11_25) rfl rfl k))) ?_
  show Go p e below s _ _ _ T1011 (mkF m 26 #[vr b113, vr b979, .unset] [(.ref b113)])
  have ne1013 : b113 ≠ b979 := Nat.ne_of_lt (Nat.lt_of_lt_of_le F_arrival_b113.lt (Nat.le_of_eq g979.symm))
  have f1014 := ((f983.keep K999 nin0).keep K1011 (ninS ne1013 nin0))
  obtain ⟨T1015, X1015, e1015, st1015⟩ := getF X1011 hx hZ hown (host := "") (Or.inl (tw33 hw)) Via.refl rfl f1014 (g := (mkF m 26 #[vr b113, vr b979, .unset] [(.ref b113)])) rfl rfl (hb hby d11_26)
  refine Go.step (fun _ k => st1015 _ (XS.istoreN X1015.here hx rfl (hb hby d11_29) rfl (l' := #[vr b113, vr b979, vi ar]) rfl (XS.iloadN X1015.here hx rfl (hb hby d11_30) rfl (XS.aloadN X1015.here hx rfl (hb hby d11_31) rfl rfl k)))) ?_
  show Go p e below s _ _ _ T1015 (mkF m 32 #[vr b113, vr b979, vi ar] [(.ref b113), (.int ar)])
  have f1016 := ((f992.keep K999 nin0).keep K1011 (ninS ne1013 nin0))
  obtain ⟨T1017, X1017, e1017, st1017⟩ := getF X1015 hx hZ hown (host := "") (Or.inl (tw35 hw)) Via.refl e1015 f1016 (g := (mkF m 32 #[vr b113, vr b979, vi ar] [(.ref b113), (.int ar)])) rfl rfl (hb hby d11_32)
  refine Go.step (fun _ k => st1017 _ (XS.icmpNo X1017.here hx rfl (hb hby d11_35) rfl (tlt hl0).2.1 (XS.aloadN X1017.here hx rfl (hb hby d11_38) rfl rfl (XS.aloadN X1017.here hx rfl (hb hby d11_39) rfl rfl k)))) ?_
  show Go p e below s _ _ _ T1017 (mkF m 40 #[vr b113, vr b979, vi ar] [(.ref b113), (.ref b979)])
  have f1018 := (((F_hotel_b113.ext E979).keep K999 nin0).keep K1011 (ninS ne1013 nin0))
  obtain ⟨T1019, X1019, e1019, st1019⟩ := getF X1017 hx hZ hown (host := "") (Or.inl (tw37 hw)) Via.refl e1017 f1018 (g := (mkF m 40 #[vr b113, vr b979, vi ar] [(.ref b113), (.ref b979)])) rfl rfl (hb hby d11_40)
  refine Go.step (fun _ k => st1019 _ (XS.iloadN X1019.here hx rfl (hb hby d11_43) rfl k)) ?_
  show Go p e below s _ _ _ T1019 (mkF m 44 #[vr b113, vr b979, vi ar] [(.int ar), (.ref hot), (.ref b979)])
  have f1022 := (f1001.keep K1011 (allS g1005 all0))
  have f1023 := (Nat.le_trans f1002 K1011.1)
  have f1024 := (((E_x1020.ext E979).keep K999).keep K1011)
  obtain ⟨_, _, ⟨T1025, L1025, k1025, n1025⟩, -, X1025, ⟨Lc1025, hQ1025, l1025, y1025, z1025⟩, st1025⟩ := Jvm.LawKit.callS X1019 hx (y := xm30) hown (mvT hZ (tw188 hw)) (mvT hZ (tw189 hw)) (mvT hZ (tw54 hw)) (mvT hZ (tw190 hw)) (by decide) (backOf (W := 1) (rm_room l Z a0 hw [] hot kk ar x1020 hg lg lc al ea kea els T1011.heap n0 f1023 f1022 Z_S_GOOD Z_S_GOOD_HOTEL Z_E_lg Z_F_first_lg Z_F_ordinal_lg Z_S_CHEAP_HOTEL Z_E_lc Z_F_first_lc Z_F_ordinal_lc Z_S_ALL Z_E_al Z_F_elements_al Z_A_ea f1024 hKk har pk_1021) hZ (tw190 hw) (tw54 hw) (by decide) (by decide)) (g := (mkF m 44 #[vr b113, vr b979, vi ar] [(.int ar), (.ref hot), (.ref b979)])) rfl (by rw [hml]; rfl) (argsL := [(.ref hot), (.int ar)]) (rest := [(.ref b979)]) (lenOf pd_16 rfl) rfl (Nat.le_of_eq rfl) (hb hby d11_44) (fun _ _ => ⟨rfl, e1019, (by decide : 4 + 0 ≤ _), (by decide : 9 + 0 ≤ _)⟩)
  dsimp only [Pt.U, Pt.locs, Pt.cells, Pt.slots] at X1025 l1025 y1025 z1025 st1025 hQ1025
  subst l1025 y1025 z1025
  obtain ⟨rfl, N1025q, eq1025⟩ := hQ1025
  have N1026 := Fr.app N1012 N1025q
  refine Go.step (fun _ k => st1025 _ k) ?_
  show Go p e below s _ _ _ T1025 (mkF m 47 #[vr b113, vr b979, vi ar] [(.ref x1020), (.ref b979)])
  have f1027 := (f1003.keep K1011)
  have f1028 := (f1009.keep K1011)
  have f1029 := (f1008.keep K1011)
  have ne1030 : b979 ≠ uu61 := Nat.ne_of_lt (Nat.lt_of_lt_of_le f1003.lt P1011_3)
  obtain ⟨cq1031, kq1031, q1031a, q1031b, q1031c⟩ := isOf hZ eq1025 f1027
  obtain ⟨_, _, ⟨T1031, L1031, k1031, n1031⟩, -, X1031, ⟨Lc1031, hQ1031, l1031, y1031, z1031⟩, st1031⟩ := X1025.interfaceBack hx (xi := xm33) (y := xm32) hown (mvT hZ (tw195 hw)) (mvT hZ (tw196 hw)) (mvT hZ (tw197 hw)) (mvT hZ (tw198 hw)) (mvT hZ (tw199 hw)) (mvT hZ (tw200 hw)) (mvT hZ (tw201 hw)) (mvT hZ (tw202 hw)) (by decide) (backOf (W := 0) (rm_ArrayList_add_0 l Z a0 hw [] b979 x1020 uu61 uu62 x985 x994 moa T1011.heap n0 f1023 P1011_0 f1027 g1005 P1011_1 P1011_2 P1011_5 P1011_4 M_moa f1028 f1029 f1024 (Ne.symm ne1030)) hZ (tw203 hw) (tw51 hw) (by decide) (by decide)) q1031a q1031b q1031c (g := (mkF m 47 #[vr b113, vr b979, vi ar] [(.ref x1020), (.ref b979)])) rfl (by rw [hml]; rfl) (Steps.refl _) (argsL := [(.ref x1020)]) (rest := []) (lenOf pd_21 rfl) rfl (Nat.le_of_eq rfl) (hb hby d11_47) (fun _ _ => ⟨rfl, eq1025, (by decide : 4 + 1 ≤ _), (by decide : 9 + 3 ≤ _)⟩)
  dsimp only [Pt.U, Pt.locs, Pt.cells, Pt.slots] at X1031 l1031 y1031 z1031 st1031 hQ1031
  subst l1031 y1031 z1031
  obtain ⟨uu63, uu64, rfl, N1031q, K1031, P1031_0, P1031_1, P1031_2, P1031_3, P1031_4, P1031_5, P1031_6⟩ := hQ1031
  have N1032 := Fr.app N1026 N1031q
  refine Go.step (fun _ k => st1031.trans (XS.pop X1031.here hx rfl (hb hby d11_52) rfl rfl (XS.iinc X1031.here hx rfl (hb hby d11_53) rfl (l' := #[vr b113, vr b979, .val (.int (ar + ci1))]) rfl (XS.goto X1031.here hx rfl (pc0 := 56) (pc' := 30) rfl (hb hby d11_56) (by decide) (by decide) (XS.iloadN X1031.here hx rfl (hb hby d11_30) rfl (XS.aloadN X1031.here hx rfl (hb hby d11_31) rfl rfl k)))))) ?_
  show Go p e below s _ _ _ T1031 (mkF m 32 #[vr b113, vr b979, .val (.int (ar + ci1))] [(.ref b113), (.int (ar + ci1))])
  have f1033 := (f1016.keep K1031 (ninS ne1013 nin0))
  obtain ⟨T1034, X1034, e1034, st1034⟩ := getF X1031 hx hZ hown (host := "") (Or.inl (tw35 hw)) Via.refl rfl f1033 (g := (mkF m 32 #[vr b113, vr b979, .val (.int (ar + ci1))] [(.ref b113), (.int (ar + ci1))])) rfl rfl (hb hby d11_32)
  refine Go.step (fun _ k => st1034 _ (XS.icmpNo X1034.here hx rfl (hb hby d11_35) rfl (tlt hl1).2.1 (XS.aloadN X1034.here hx rfl (hb hby d11_38) rfl rfl (XS.aloadN X1034.here hx rfl (hb hby d11_39) rfl rfl k)))) ?_
  show Go p e below s _ _ _ T1034 (mkF m 40 #[vr b113, vr b979, .val (.int (ar + ci1))] [(.ref b113), (.ref b979)])
  have f1035 := (f1018.keep K1031 (ninS ne1013 nin0))
  obtain ⟨T1036, X1036, e1036, st1036⟩ := getF X1034 hx hZ hown (host := "") (Or.inl (tw37 hw)) Via.refl e1034 f1035 (g := (mkF m 40 #[vr b113, vr b979, .val (.int (ar + ci1))] [(.ref b113), (.ref b979)])) rfl rfl (hb hby d11_40)
  refine Go.step (fun _ k => st1036 _ (XS.iloadN X1036.here hx rfl (hb hby d11_43) rfl k)) ?_
  show Go p e below s _ _ _ T1036 (mkF m 44 #[vr b113, vr b979, .val (.int (ar + ci1))] [(.int (ar + ci1)), (.ref hot), (.ref b979)])
  have f1039 := (f1022.keep K1031 (allS g1005 all0))
  have f1040 := (Nat.le_trans f1023 K1031.1)
  have f1041 := ((((E_x1037.ext E979).keep K999).keep K1011).keep K1031)
  obtain ⟨_, _, ⟨T1042, L1042, k1042, n1042⟩, -, X1042, ⟨Lc1042, hQ1042, l1042, y1042, z1042⟩, st1042⟩ := Jvm.LawKit.callS X1036 hx (y := xm30) hown (mvT hZ (tw188 hw)) (mvT hZ (tw189 hw)) (mvT hZ (tw54 hw)) (mvT hZ (tw190 hw)) (by decide) (backOf (W := 1) (rm_room l Z a0 hw [] hot kk (ar + ci1) x1037 hg lg lc al ea kea els T1031.heap n0 f1040 f1039 Z_S_GOOD Z_S_GOOD_HOTEL Z_E_lg Z_F_first_lg Z_F_ordinal_lg Z_S_CHEAP_HOTEL Z_E_lc Z_F_first_lc Z_F_ordinal_lc Z_S_ALL Z_E_al Z_F_elements_al Z_A_ea f1041 hKk hI1 pk_1038) hZ (tw190 hw) (tw54 hw) (by decide) (by decide)) (g := (mkF m 44 #[vr b113, vr b979, .val (.int (ar + ci1))] [(.int (ar + ci1)), (.ref hot), (.ref b979)])) rfl (by rw [hml]; rfl) (argsL := [(.ref hot), (.int (ar + ci1))]) (rest := [(.ref b979)]) (lenOf pd_16 rfl) rfl (Nat.le_of_eq rfl) (hb hby d11_44) (fun _ _ => ⟨rfl, e1036, (by decide : 5 + 0 ≤ _), (by decide : 12 + 0 ≤ _)⟩)
  dsimp only [Pt.U, Pt.locs, Pt.cells, Pt.slots] at X1042 l1042 y1042 z1042 st1042 hQ1042
  subst l1042 y1042 z1042
  obtain ⟨rfl, N1042q, eq1042⟩ := hQ1042
  have N1043 := Fr.app N1032 N1042q
  refine Go.step (fun _ k => st1042 _ k) ?_
  show Go p e below s _ _ _ T1042 (mkF m 47 #[vr b113, vr b979, .val (.int (ar + ci1))] [(.ref x1037), (.ref b979)])
  have f1044 := (f1027.keep K1031)
  have f1045 := (f1024.keep K1031)
  have f1046 := (f1028.keep K1031)
  have f1047 := (f1029.keep K1031)
  have ne1048 : b979 ≠ uu63 := Nat.ne_of_lt (Nat.lt_of_lt_of_le f1027.lt P1031_3)
  obtain ⟨cq1049, kq1049, q1049a, q1049b, q1049c⟩ := isOf hZ eq1042 f1044
  obtain ⟨_, _, ⟨T1049, L1049, k1049, n1049⟩, -, X1049, ⟨Lc1049, hQ1049, l1049, y1049, z1049⟩, st1049⟩ := X1042.interfaceBack hx (xi := xm33) (y := xm32) hown (mvT hZ (tw195 hw)) (mvT hZ (tw196 hw)) (mvT hZ (tw197 hw)) (mvT hZ (tw198 hw)) (mvT hZ (tw199 hw)) (mvT hZ (tw200 hw)) (mvT hZ (tw201 hw)) (mvT hZ (tw202 hw)) (by decide) (backOf (W := 0) (rm_ArrayList_add_2 l Z a0 hw [] b979 x1037 uu63 uu64 x985 x994 x1020 moa T1031.heap n0 f1040 P1031_0 f1044 g1005 P1031_1 P1031_2 P1031_5 P1031_4 M_moa f1045 f1046 f1047 f1041 (Ne.symm ne1048)) hZ (tw203 hw) (tw51 hw) (by decide) (by decide)) q1049a q1049b q1049c (g := (mkF m 47 #[vr b113, vr b979, .val (.int (ar + ci1))] [(.ref x1037), (.ref b979)])) rfl (by rw [hml]; rfl) (Steps.refl _) (argsL := [(.ref x1037)]) (rest := []) (lenOf pd_21 rfl) rfl (Nat.le_of_eq rfl) (hb hby d11_47) (fun _ _ => ⟨rfl, eq1042, (by decide : 5 + 1 ≤ _), (by decide : 12 + 4 ≤ _)⟩)
  dsimp only [Pt.U, Pt.locs, Pt.cells, Pt.slots] at X1049 l1049 y1049 z1049 st1049 hQ1049
  subst l1049 y1049 z1049
  obtain ⟨uu65, uu66, rfl, N1049q, K1049, P1049_0, P1049_1, P1049_2, P1049_3, P1049_4, P1049_5, P1049_6⟩ := hQ1049
  have N1050 := Fr.app N1043 N1049q
  refine Go.step (fun _ k => st1049.trans (XS.pop X1049.here hx rfl (hb hby d11_52) rfl rfl (XS.iinc X1049.here hx rfl (hb hby d11_53) rfl (l' := #[vr b113, vr b979, .val (.int ((ar + ci1) + ci1))]) rfl (XS.goto X1049.here hx rfl (pc0 := 56) (pc' := 30) rfl (hb hby d11_56) (by decide) (by decide) (XS.iloadN X1049.here hx rfl (hb hby d11_30) rfl (XS.aloadN X1049.here hx rfl (hb hby d11_31) rfl rfl k)))))) ?_
  show Go p e below s _ _ _ T1049 (mkF m 32 #[vr b113, vr b979, .val (.int ((ar + ci1) + ci1))] [(.ref b113), (.int ((ar + ci1) + ci1))])
  have f1051 := (f1033.keep K1049 (ninS ne1013 nin0))
  obtain ⟨T1052, X1052, e1052, st1052⟩ := getF X1049 hx hZ hown (host := "") (Or.inl (tw35 hw)) Via.refl rfl f1051 (g := (mkF m 32 #[vr b113, vr b979, .val (.int ((ar + ci1) + ci1))] [(.ref b113), (.int ((ar + ci1) + ci1))])) rfl rfl (hb hby d11_32)
  refine Go.step (fun _ k => st1052 _ (XS.icmpNo X1052.here hx rfl (hb hby d11_35) rfl (tlt hl2).2.1 (XS.aloadN X1052.here hx rfl (hb hby d11_38) rfl rfl (XS.aloadN X1052.here hx rfl (hb hby d11_39) rfl rfl k)))) ?_
  show Go p e below s _ _ _ T1052 (mkF m 40 #[vr b113, vr b979, .val (.int ((ar + ci1) + ci1))] [(.ref b113), (.ref b979)])
  have f1053 := (f1035.keep K1049 (ninS ne1013 nin0))
  obtain ⟨T1054, X1054, e1054, st1054⟩ := getF X1052 hx hZ hown (host := "") (Or.inl (tw37 hw)) Via.refl e1052 f1053 (g := (mkF m 40 #[vr b113, vr b979, .val (.int ((ar + ci1) + ci1))] [(.ref b113), (.ref b979)])) rfl rfl (hb hby d11_40)
  refine Go.step (fun _ k => st1054 _ (XS.iloadN X1054.here hx rfl (hb hby d11_43) rfl k)) ?_
  show Go p e below s _ _ _ T1054 (mkF m 44 #[vr b113, vr b979, .val (.int ((ar + ci1) + ci1))] [(.int ((ar + ci1) + ci1)), (.ref hot), (.ref b979)])
  have f1057 := (f1039.keep K1049 (allS g1005 all0))
  have f1058 := (Nat.le_trans f1040 K1049.1)
  have f1059 := (((((E_x1055.ext E979).keep K999).keep K1011).keep K1031).keep K1049)
  obtain ⟨_, _, ⟨T1060, L1060, k1060, n1060⟩, -, X1060, ⟨Lc1060, hQ1060, l1060, y1060, z1060⟩, st1060⟩ := Jvm.LawKit.callS X1054 hx (y := xm30) hown (mvT hZ (tw188 hw)) (mvT hZ (tw189 hw)) (mvT hZ (tw54 hw)) (mvT hZ (tw190 hw)) (by decide) (backOf (W := 1) (rm_room l Z a0 hw [] hot kk (((ar + ci1) + ci1)) x1055 hg lg lc al ea kea els T1049.heap n0 f1058 f1057 Z_S_GOOD Z_S_GOOD_HOTEL Z_E_lg Z_F_first_lg Z_F_ordinal_lg Z_S_CHEAP_HOTEL Z_E_lc Z_F_first_lc Z_F_ordinal_lc Z_S_ALL Z_E_al Z_F_elements_al Z_A_ea f1059 hKk hI2 pk_1056) hZ (tw190 hw) (tw54 hw) (by decide) (by decide)) (g := (mkF m 44 #[vr b113, vr b979, .val (.int ((ar + ci1) + ci1))] [(.int ((ar + ci1) + ci1)), (.ref hot), (.ref b979)])) rfl (by rw [hml]; rfl) (argsL := [(.ref hot), (.int ((ar + ci1) + ci1))]) (rest := [(.ref b979)]) (lenOf pd_16 rfl) rfl (Nat.le_of_eq rfl) (hb hby d11_44) (fun _ _ => ⟨rfl, e1054, (by decide : 6 + 0 ≤ _), (by decide : 16 + 0 ≤ _)⟩)
  dsimp only [Pt.U, Pt.locs, Pt.cells, Pt.slots] at X1060 l1060 y1060 z1060 st1060 hQ1060
  subst l1060 y1060 z1060
  obtain ⟨rfl, N1060q, eq1060⟩ := hQ1060
  have N1061 := Fr.app N1050 N1060q
  refine Go.step (fun _ k => st1060 _ k) ?_
  show Go p e below s _ _ _ T1060 (mkF m 47 #[vr b113, vr b979, .val (.int ((ar + ci1) + ci1))] [(.ref x1055), (.ref b979)])
  have f1062 := (f1044.keep K1049)
  have f1063 := (f1041.keep K1049)
  have f1064 := (f1045.keep K1049)
  have f1065 := (f1046.keep K1049)
  have f1066 := (f1047.keep K1049)
  have ne1067 : b979 ≠ uu65 := Nat.ne_of_lt (Nat.lt_of_lt_of_le f1044.lt P1049_3)
  obtain ⟨cq1068, kq1068, q1068a, q1068b, q1068c⟩ := isOf hZ eq1060 f1062
  obtain ⟨_, _, ⟨T1068, L1068, k1068, n1068⟩, -, X1068, ⟨Lc1068, hQ1068, l1068, y1068, z1068⟩, st1068⟩ := X1060.interfaceBack hx (xi := xm33) (y := xm32) hown (mvT hZ (tw195 hw)) (mvT hZ (tw196 hw)) (mvT hZ (tw197 hw)) (mvT hZ (tw198 hw)) (mvT hZ (tw199 hw)) (mvT hZ (tw200 hw)) (mvT hZ (tw201 hw)) (mvT hZ (tw202 hw)) (by decide) (backOf (W := 0) (rm_ArrayList_add_4 l Z a0 hw [] b979 x1055 uu65 uu66 x985 x994 x1020 x1037 moa T1049.heap n0 f1058 P1049_0 f1062 g1005 P1049_1 P1049_2 P1049_5 P1049_4 M_moa f1063 f1064 f1065 f1066 f1059 (Ne.symm ne1067)) hZ (tw203 hw) (tw51 hw) (by decide) (by decide)) q1068a q1068b q1068c (g := (mkF m 47 #[vr b113, vr b979, .val (.int ((ar + ci1) + ci1))] [(.ref x1055), (.ref b979)])) rfl (by rw [hml]; rfl) (Steps.refl _) (argsL := [(.ref x1055)]) (rest := []) (lenOf pd_21 rfl) rfl (Nat.le_of_eq rfl) (hb hby d11_47) (fun _ _ => ⟨rfl, eq1060, (by decide : 6 + 1 ≤ _), (by decide : 16 + 6 ≤ _)⟩)
  dsimp only [Pt.U, Pt.locs, Pt.cells, Pt.slots] at X1068 l1068 y1068 z1068 st1068 hQ1068
  subst l1068 y1068 z1068
  obtain ⟨uu58, uu59, rfl, N1068q, K1068, P1068_0, P1068_1, P1068_2, P1068_3, P1068_4, P1068_5, P1068_6⟩ := hQ1068
  have N1069 := Fr.app N1061 N1068q
  refine Go.step (fun _ k => st1068.trans (XS.pop X1068.here hx rfl (hb hby d11_52) rfl rfl (XS.iinc X1068.here hx rfl (hb hby d11_53) rfl (l' := #[vr b113, vr b979, .val (.int (((ar + ci1) + ci1) + ci1))]) rfl (XS.goto X1068.here hx rfl (pc0 := 56) (pc' := 30) rfl (hb hby d11_56) (by decide) (by decide) (XS.iloadN X1068.here hx rfl (hb hby d11_30) rfl (XS.aloadN X1068.here hx rfl (hb hby d11_31) rfl rfl k)))))) ?_
  show Go p e below s _ _ _ T1068 (mkF m 32 #[vr b113, vr b979, .val (.int (((ar + ci1) + ci1) + ci1))] [(.ref b113), (.int (((ar + ci1) + ci1) + ci1))])
  have f1070 := (f1051.keep K1068 (ninS ne1013 nin0))
  obtain ⟨T1071, X1071, e1071, st1071⟩ := getF X1068 hx hZ hown (host := "") (Or.inl (tw35 hw)) Via.refl rfl f1070 (g := (mkF m 32 #[vr b113, vr b979, .val (.int (((ar + ci1) + ci1) + ci1))] [(.ref b113), (.int (((ar + ci1) + ci1) + ci1))])) rfl rfl (hb hby d11_32)
  refine Go.step (fun _ k => st1071 _ (XS.icmpNo X1071.here hx rfl (hb hby d11_35) rfl (tlt hl3).2.1 (XS.aloadN X1071.here hx rfl (hb hby d11_38) rfl rfl (XS.aloadN X1071.here hx rfl (hb hby d11_39) rfl rfl k)))) ?_
  show Go p e below s _ _ _ T1071 (mkF m 40 #[vr b113, vr b979, .val (.int (((ar + ci1) + ci1) + ci1))] [(.ref b113), (.ref b979)])
  have f1072 := (f1053.keep K1068 (ninS ne1013 nin0))
  obtain ⟨T1073, X1073, e1073, st1073⟩ := getF X1071 hx hZ hown (host := "") (Or.inl (tw37 hw)) Via.refl e1071 f1072 (g := (mkF m 40 #[vr b113, vr b979, .val (.int (((ar + ci1) + ci1) + ci1))] [(.ref b113), (.ref b979)])) rfl rfl (hb hby d11_40)
  refine Go.step (fun _ k => st1073 _ (XS.iloadN X1073.here hx rfl (hb hby d11_43) rfl k)) ?_
  show Go p e below s _ _ _ T1073 (mkF m 44 #[vr b113, vr b979, .val (.int (((ar + ci1) + ci1) + ci1))] [(.int (((ar + ci1) + ci1) + ci1)), (.ref hot), (.ref b979)])
  have f1076 := (f1057.keep K1068 (allS g1005 all0))
  have f1077 := (Nat.le_trans f1058 K1068.1)
  have f1078 := ((((((E_x1074.ext E979).keep K999).keep K1011).keep K1031).keep K1049).keep K1068)
  obtain ⟨_, _, ⟨T1079, L1079, k1079, n1079⟩, -, X1079, ⟨Lc1079, hQ1079, l1079, y1079, z1079⟩, st1079⟩ := Jvm.LawKit.callS X1073 hx (y := xm30) hown (mvT hZ (tw188 hw)) (mvT hZ (tw189 hw)) (mvT hZ (tw54 hw)) (mvT hZ (tw190 hw)) (by decide) (backOf (W := 1) (rm_room l Z a0 hw [] hot kk ((((ar + ci1) + ci1) + ci1)) x1074 hg lg lc al ea kea els T1068.heap n0 f1077 f1076 Z_S_GOOD Z_S_GOOD_HOTEL Z_E_lg Z_F_first_lg Z_F_ordinal_lg Z_S_CHEAP_HOTEL Z_E_lc Z_F_first_lc Z_F_ordinal_lc Z_S_ALL Z_E_al Z_F_elements_al Z_A_ea f1078 hKk hI3 pk_1075) hZ (tw190 hw) (tw54 hw) (by decide) (by decide)) (g := (mkF m 44 #[vr b113, vr b979, .val (.int (((ar + ci1) + ci1) + ci1))] [(.int (((ar + ci1) + ci1) + ci1)), (.ref hot), (.ref b979)])) rfl (by rw [hml]; rfl) (argsL := [(.ref hot), (.int (((ar + ci1) + ci1) + ci1))]) (rest := [(.ref b979)]) (lenOf pd_16 rfl) rfl (Nat.le_of_eq rfl) (hb hby d11_44) (fun _ _ => ⟨rfl, e1073, (by decide : 7 + 0 ≤ _), (by decide : 22 + 0 ≤ _)⟩)
  dsimp only [Pt.U, Pt.locs, Pt.cells, Pt.slots] at X1079 l1079 y1079 z1079 st1079 hQ1079
  subst l1079 y1079 z1079
  obtain ⟨rfl, N1079q, eq1079⟩ := hQ1079
  have N1080 := Fr.app N1069 N1079q
  refine Go.step (fun _ k => st1079 _ k) ?_
  show Go p e below s _ _ _ T1079 (mkF m 47 #[vr b113, vr b979, .val (.int (((ar + ci1) + ci1) + ci1))] [(.ref x1074), (.ref b979)])
  have g1091 := Nat.le_trans f1058 P1068_3
  have ne1094 : b979 ≠ uu58 := Nat.ne_of_lt (Nat.lt_of_lt_of_le f1062.lt P1068_3)
  have f1113 := (f1062.keep K1068)
  obtain ⟨cq1114, kq1114, q1114a, q1114b, q1114c⟩ := isOf hZ eq1079 f1113
  obtain ⟨_, _, ⟨T1114, L1114, k1114, n1114⟩, -, X1114, ⟨Lc1114, hQ1114, l1114, y1114, z1114⟩, st1114⟩ := X1079.interfaceBack hx (xi := xm33) (y := xm32) hown (mvT hZ (tw195 hw)) (mvT hZ (tw196 hw)) (mvT hZ (tw197 hw)) (mvT hZ (tw198 hw)) (mvT hZ (tw199 hw)) (mvT hZ (tw200 hw)) (mvT hZ (tw201 hw)) (mvT hZ (tw202 hw)) (by decide) (backOf (W := 0) (rm_ArrayList_add_6 l Z a0 hw [] b979 x1074 uu58 uu59 x985 x994 x1020 x1037 x1055 T1068.heap n0 f1077 P1068_0 f1113 g1005 P1068_1 P1068_2 P1068_5 P1068_6 f1078 g1091 ne1094) hZ (tw203 hw) (tw51 hw) (by decide) (by decide)) q1114a q1114b q1114c (g := (mkF m 47 #[vr b113, vr b979, .val (.int (((ar + ci1) + ci1) + ci1))] [(.ref x1074), (.ref b979)])) rfl (by rw [hml]; rfl) (Steps.refl _) (argsL := [(.ref x1074)]) (rest := []) (lenOf pd_21 rfl) rfl (Nat.le_of_eq rfl) (hb hby d11_47) (fun _ _ => ⟨rfl, eq1079, (by decide : 7 + 0 ≤ _), (by decide : 22 + 0 ≤ _)⟩)
  dsimp only [Pt.U, Pt.locs, Pt.cells, Pt.slots] at X1114 l1114 y1114 z1114 st1114 hQ1114
  subst l1114 y1114 z1114
  obtain ⟨rfl, N1114q, K1114, P1114_0, P1114_1, P1114_2, P1114_3⟩ := hQ1114
  have N1115 := Fr.app N1080 N1114q
  refine Go.step (fun _ k => st1114.trans (XS.pop X1114.here hx rfl (hb hby d11_52) rfl rfl (XS.iinc X1114.here hx rfl (hb hby d11_53) rfl (l' := #[vr b113, vr b979, .val (.int ((((ar + ci1) + ci1) + ci1) + ci1))]) rfl (XS.goto X1114.here hx rfl (pc0 := 56) (pc' := 30) rfl (hb hby d11_56) (by decide) (by decide) (XS.iloadN X1114.here hx rfl (hb hby d11_30) rfl (XS.aloadN X1114.here hx rfl (hb hby d11_31) rfl rfl k)))))) ?_
  show Go p e below s _ _ _ T1114 (mkF m 32 #[vr b113, vr b979, .val (.int ((((ar + ci1) + ci1) + ci1) + ci1))] [(.ref b113), (.int ((((ar + ci1) + ci1) + ci1) + ci1))])
  have f1116 := ((f1014.keep K1031 (ninS ne1013 nin0)).keep K1049 (ninS ne1013 nin0))
  have ne1117 : b113 ≠ uu58 := Nat.ne_of_lt (Nat.lt_of_lt_of_le f1116.lt P1068_3)
  have f1118 := (f1070.keep K1114 (ninS ne1013 (ninS ne1117 nin0)))
  obtain ⟨T1119, X1119, e1119, st1119⟩ := getF X1114 hx hZ hown (host := "") (Or.inl (tw35 hw)) Via.refl rfl f1118 (g := (mkF m 32 #[vr b113, vr b979, .val (.int ((((ar + ci1) + ci1) + ci1) + ci1))] [(.ref b113), (.int ((((ar + ci1) + ci1) + ci1) + ci1))])) rfl rfl (hb hby d11_32)
  refine Go.step (fun _ k => st1119 _ (XS.icmpYes X1119.here hx rfl (pc0 := 35) (pc' := 59) rfl (hb hby d11_35) rfl (flt hl4).2.1 (by decide) (by decide) (XS.aloadN X1119.here hx rfl (hb hby d11_59) rfl rfl k))) ?_
  show Go p e below s _ _ _ T1119 (mkF m 60 #[vr b113, vr b979, .val (.int ((((ar + ci1) + ci1) + ci1) + ci1))] [(.ref b979)])
  have z1120 := Nat.le_trans (Nat.le_refl _) (Nat.le_of_eq g979.symm)
  have f1121 := (Nat.le_trans (Nat.le_trans (Nat.le_trans (Nat.le_trans (Nat.le_trans (Nat.le_refl _) E979.1) K999.1) K1011.1) K1031.1) K1049.1)
  have z1122 := Nat.le_trans f1121 P1068_3
  have f1123 := ((((((((Keep.refl h0 []).ext E979).trans K999 all0).trans K1011 (allS (Or.inr z1120) all0)).trans K1031 (allS (Or.inr z1120) all0)).trans K1049 (allS (Or.inr z1120) all0)).trans K1068 (allS (Or.inr z1120) all0)).trans K1114 (allS (Or.inr z1120) (allS (Or.inr z1122) all0)))
  have f1124 := (f1113.keep K1114)
  have f1125 := (P1068_4.keep K1114)
  have f1126 := (Nat.le_trans (Nat.le_trans (Nat.le_trans (Nat.le_trans (Nat.le_trans (Nat.le_trans (Nat.le_trans (Nat.le_refl _) E979.1) K999.1) K1011.1) K1031.1) K1049.1) K1068.1) K1114.1)
  exact Go.retA X1119 hx hlk Bd.returns rfl rfl (hb hby d11_60) e1119 ⟨b979, uu58, uu59, rfl, N1115, f1123, z1120, f1124, P1114_0, P1114_2, P1114_1, z1122, f1125, P1114_3, P1068_6, ne1094⟩ (by decide) (by decide)

theorem ef_law (m : MethodId) (x0 : Int32) (x1 : Int32) (x2 : Int32) (x3 : Int32) : entryFrame m #[(.int x0), (.int x1), (.int x2), (.int x3)] maxLocals = mkF m 0 #[vi x0, vi x1, vi x2, vi x3, .unset, .unset, .unset, .unset, .unset, .unset, .unset, .unset, .unset] [] := by first | (simp [entryFrame, mkF, argsToLocals, Value.category, maxLocals]; done) | rfl
def Q_law (Z : State) (p1 : Int32) (p2 : Int32) (p3 : Int32) (p4 : Int32) (hg : Addr) (hc : Addr) (li : Addr) (lo : Addr) (lg : Addr) (lc : Addr) (al : Addr) (ea : Addr) (em : Addr) (m12 : Addr) (mal : Addr) (moa : Addr) (kea : ClassId) (els : List Value) (h0 : Heap) (n0 : Nat) (v : Option Value) (h : Heap) (L : List Loc) : Prop := v = some cv1 ∧ Fr n0 L
set_option maxRecDepth 65536 in
set_option maxHeartbeats 40000000 in
theorem rm_law (l : Launch) (Z : State) (a0 : Array Value) (hw : ∀ d ∈ tables_1, d.before a0 Z = true) (ws : List Jvm.Cond) (p1 : Int32) (p2 : Int32) (p3 : Int32) (p4 : Int32) (hg : Addr) (hc : Addr) (li : Addr) (lo : Addr) (lg : Addr) (lc : Addr) (al : Addr) (ea : Addr) (em : Addr) (m12 : Addr) (mal : Addr) (moa : Addr) (kea : ClassId) (els : List Value) (h0 : Heap) (n0 : Nat) (Z0 : n0 ≤ h0.size) (O0 : Old Z n0 h0) (Z_S_GOOD : Sta Z Z.heap xs16 "GOOD" xs13 (.ref hg)) (Z_S_CHEAP : Sta Z Z.heap xs16 "CHEAP" xs13 (.ref hc)) (Z_S_INFLIGHT : Sta Z Z.heap xs11 "INFLIGHT" xs10 (.ref li)) (Z_E_li : Exa Z Z.heap li xs11) (Z_F_first_li : Fld Z Z.heap li xs11 "first" "I" cv1) (Z_F_ordinal_li : Fld Z Z.heap li xs43 "ordinal" "I" cv0) (Z_S_OUTFLIGHT : Sta Z Z.heap xs11 "OUTFLIGHT" xs10 (.ref lo)) (Z_E_lo : Exa Z Z.heap lo xs11) (Z_F_first_lo : Fld Z Z.heap lo xs11 "first" "I" cv2) (Z_F_ordinal_lo : Fld Z Z.heap lo xs43 "ordinal" "I" cv1) (Z_S_GOOD_HOTEL : Sta Z Z.heap xs11 "GOOD_HOTEL" xs10 (.ref lg)) (Z_E_lg : Exa Z Z.heap lg xs11) (Z_F_first_lg : Fld Z Z.heap lg xs11 "first" "I" cv1) (Z_F_ordinal_lg : Fld Z Z.heap lg xs43 "ordinal" "I" cv2) (Z_S_CHEAP_HOTEL : Sta Z Z.heap xs11 "CHEAP_HOTEL" xs10 (.ref lc)) (Z_E_lc : Exa Z Z.heap lc xs11) (Z_F_first_lc : Fld Z Z.heap lc xs11 "first" "I" cv1) (Z_F_ordinal_lc : Fld Z Z.heap lc xs43 "ordinal" "I" cv3) (Z_S_ALL : Sta Z Z.heap xs17 "ALL" xs40 (.ref al)) (Z_E_al : Exa Z Z.heap al xs22) (Z_F_elements_al : Fld Z Z.heap al xs22 "elements" xs34 (.ref ea)) (Z_A_ea : Arv Z Z.heap ea kea (.object xs39) ci28 els .null) (Z_S_EMPTY : Sta Z Z.heap xs26 "EMPTY" xs36 (.ref em)) (Z_E_em : Exa Z Z.heap em xs39) (ne_hg_hc : hg ≠ hc) (hAll : own_All Z els em) (M_m12 : Mir Z xs21 m12) (M_mal : Mir Z xs35 mal) (M_moa : Mir Z xs34 moa) :
    MetFree l x (head1 (Jvm.Cond.code x code maxLocals ret :: ws) room_1) (fun a U => a = #[(.int p1), (.int p2), (.int p3), (.int p4)] ∧ Z.Warmed39 U.vm ∧ U.heap = h0) (fun _ _ _ _ _ => True) (fun _ U o U' => ∃ v L, o = .returned v ∧ Q_law Z p1 p2 p3 p4 hg hc li lo lg lc al ea em m12 mal moa kea els h0 n0 v U'.heap L ∧ ReturnedEndW U o U' L room_1.cells room_1.slots) := by
  refine MetFree.of_bodySF (plainFor_of_name pn_16) hisR ?_
  intro p e s m args below meth c s₁ Bd hml0 hP hK
  obtain ⟨rfl, hZ, hh⟩ := hP
  have hx := Bd.exec
  have hby := Bd.bytes
  have hlk : meth.locks = false := BodyLoose.notSynchronized Bd
  have hml : c.maxLocals = 13 := hml0
  have hown : s.vm.findClass xs6 = some m.cls := findClass_of_methodNamed Bd.named
  have hnm := (name_of_methodNamed Bd.named Bd.method).1
  have X0 : Stand p l e room_1 (s.setVm s.vm) m #[(.int p1), (.int p2), (.int p3), (.int p4)] below meth c s₁ [] 0 0 := Stand.of_body Bd
  have e0 : s₁.heap = h0 := by rw [← hh, Bd.state]; rfl
  have N0 := Fr.nil n0
  have hS0 : s.Since s.vm h0.size := (State.WarmedH.refl s).since _
  show GoW p e below s (Q_law Z p1 p2 p3 p4 hg hc li lo lg lc al ea em m12 mal moa kea els h0 n0) room_1.cells room_1.slots s₁ (entryFrame m #[(.int p1), (.int p2), (.int p3), (.int p4)] maxLocals)
  refine GoW.cast (ef_law m p1 p2 p3 p4) ?_
  show GoW p e below s _ _ _ s₁ (mkF m 0 #[vi p1, vi p2, vi p3, vi p4, .unset, .unset, .unset, .unset, .unset, .unset, .unset, .unset, .unset] [])
  refine GoW.step (fun _ k => XS.iconst X0.here hx rfl (hb hby at_0) (XS.iloadN X0.here hx rfl (hb hby at_1) rfl (XS.iconst X0.here hx rfl (hb hby at_2) (XS.iand X0.here hx rfl (hb hby at_3) rfl (XS.iadd X0.here hx rfl (hb hby at_4) rfl k))))) ?_
  show GoW p e below s _ _ _ s₁ (mkF m 5 #[vi p1, vi p2, vi p3, vi p4, .unset, .unset, .unset, .unset, .unset, .unset, .unset, .unset, .unset] [(.int (ci1 + (p1 &&& ci3)))])
  obtain ⟨ar, ear⟩ : ∃ z, z = (ci1 + (p1 &&& ci3)) := ⟨_, rfl⟩
  have har : own_I ar := by rw [ear]; exact own_ar _
  rw [← ear]
  refine GoW.step (fun _ k => XS.istore X0.here hx rfl (hb hby at_5) rfl (l' := #[vi p1, vi p2, vi p3, vi p4, vi ar, .unset, .unset, .unset, .unset, .unset, .unset, .unset, .unset]) rfl (XS.iload X0.here hx rfl (hb hby at_7) rfl (XS.iconst X0.here hx rfl (hb hby at_9) (XS.iadd X0.here hx rfl (hb hby at_10) rfl (XS.iloadN X0.here hx rfl (hb hby at_11) rfl (X0.ldcInt hx hown (mvT hZ (tw0 hw)) (g := (mkF m 12 #[vi p1, vi p2, vi p3, vi p4, vi ar, .unset, .unset, .unset, .unset, .unset, .unset, .unset, .unset] [(.int p2), (.int (ar + ci1))])) rfl (hb hby at_12) _ (XS.iand X0.here hx rfl (hb hby at_14) rfl (XS.iconst X0.here hx rfl (hb hby at_15) (XS.iload X0.here hx rfl (hb hby at_16) rfl (XS.isub X0.here hx rfl (hb hby at_18) rfl k)))))))))) ?_
  show GoW p e below s _ _ _ s₁ (mkF m 19 #[vi p1, vi p2, vi p3, vi p4, vi ar, .unset, .unset, .unset, .unset, .unset, .unset, .unset, .unset] [(.int (ci5 - ar)), (.int (p2 &&& ci2147483647)), (.int (ar + ci1))])
  refine GoW.step (fun _ k => iremM X0 hx rfl (hb hby at_19) rfl (own_nz har) (XS.iadd X0.here hx rfl (hb hby at_20) rfl k)) ?_
  show GoW p e below s _ _ _ s₁ (mkF m 21 #[vi p1, vi p2, vi p3, vi p4, vi ar, .unset, .unset, .unset, .unset, .unset, .unset, .unset, .unset] [(.int ((ar + ci1) + ((p2 &&& ci2147483647) % (ci5 - ar))))])
  obtain ⟨dp, edp⟩ : ∃ z, z = ((ar + ci1) + ((p2 &&& ci2147483647) % (ci5 - ar))) := ⟨_, rfl⟩
  have hD : own_D ar dp := by rw [edp]; exact own_dp har _
  rw [← edp]
  refine GoW.step (fun _ k => XS.istore X0.here hx rfl (hb hby at_21) rfl (l' := #[vi p1, vi p2, vi p3, vi p4, vi ar, vi dp, .unset, .unset, .unset, .unset, .unset, .unset, .unset]) rfl (XS.iloadN X0.here hx rfl (hb hby at_23) rfl (XS.iconst X0.here hx rfl (hb hby at_24) (XS.iand X0.here hx rfl (hb hby at_25) rfl k)))) ?_
  show GoW p e below s _ _ _ s₁ (mkF m 26 #[vi p1, vi p2, vi p3, vi p4, vi ar, vi dp, .unset, .unset, .unset, .unset, .unset, .unset, .unset] [(.int (p3 &&& ci1))])
  have J1 : ∀ (Tj110 : State) (Lj110 : List Loc) (Xj110 : Stand p l e room_1 (s.setVm s.vm) m #[(.int p1), (.int p2), (.int p3), (.int p4)] below meth c Tj110 Lj110 0 0) (ej110 : Tj110.heap = h0) (Nj110 : Fr n0 Lj110) (hot : Addr) (kk : Int32) (hKk : own_K hg hot kk), GoW p e below s (Q_law Z p1 p2 p3 p4 hg hc li lo lg lc al ea em m12 mal moa kea els h0 n0) room_1.cells room_1.slots Tj110 (mkF m 38 #[vi p1, vi p2, vi p3, vi p4, vi ar, vi dp, .unset, .unset, .unset, .unset, .unset, .unset, .unset] [(.ref hot)]) := by
    intro Tj110 Lj110 Xj110 ej110 Nj110 hot kk hKk
    have hc0 : ¬ ar < ci1 := own_hc0 hD
    have hc1 : ¬ ci4 < ar := own_hc1 hD
    have hc2 : ar < dp := own_hc2 hD
    have hc3 : ¬ ci5 < dp := own_hc3 hD
    refine GoW.step (fun _ k => XS.astore Xj110.here hx rfl (hb hby at_38) rfl rfl (l' := #[vi p1, vi p2, vi p3, vi p4, vi ar, vi dp, vr hot, .unset, .unset, .unset, .unset, .unset, .unset]) rfl k) ?_
    show GoW p e below s _ _ _ Tj110 (mkF m 40 #[vi p1, vi p2, vi p3, vi p4, vi ar, vi dp, vr hot, .unset, .unset, .unset, .unset, .unset, .unset] [])
    obtain ⟨T113, h113, X113, e113, E113, A113, D113, -, st113⟩ := newO Xj110 hx hZ hown (tw4 hw) (tw5 hw) (tw6 hw) ej110 (g := (mkF m 40 #[vi p1, vi p2, vi p3, vi p4, vi ar, vi dp, vr hot, .unset, .unset, .unset, .unset, .unset, .unset] [])) rfl (hb hby at_40) (by decide) (by decide)
    obtain ⟨b113, g113⟩ : ∃ z, z = h0.size := ⟨_, rfl⟩
    rw [← g113] at A113 D113 st113
    have f114 : Fld Z h113 b113 xs18 "arrival" "I" cv0 := D113 (Or.inr (tw34 hw)) (ty := .int) (by decide)
    have f115 : Fld Z h113 b113 xs18 "departure" "I" cv0 := D113 (Or.inr (tw36 hw)) (ty := .int) (by decide)
    have f116 : Fld Z h113 b113 xs18 "hotel" xs13 .null := D113 (Or.inr (tw38 hw)) (ty := (.object xs16)) (by decide)
    refine GoW.step (fun _ k => st113 _ (XS.dup X113.here hx rfl (hb hby at_43) rfl rfl (XS.iload X113.here hx rfl (hb hby at_44) rfl (XS.iload X113.here hx rfl (hb hby at_46) rfl (XS.aload X113.here hx rfl (hb hby at_48) rfl rfl k))))) ?_
    show GoW p e below s _ _ _ T113 (mkF m 50 #[vi p1, vi p2, vi p3, vi p4, vi ar, vi dp, vr hot, .unset, .unset, .unset, .unset, .unset, .unset] [(.ref hot), (.int dp), (.int ar), (.ref b113), (.ref b113)])
    have g130 := Nat.le_trans Z0 (Nat.le_of_eq g113.symm)
    have f148 := (Nat.le_trans Z0 E113.1)
    obtain ⟨_, _, ⟨T149, L149, k149, n149⟩, -, X149s, hs149, hg149, ⟨Lc149, hQ149, l149, y149, z149⟩, st149⟩ := X113.specialBackS hx (y := xm21) rfl hown (mvT hZ (tw7 hw)) (mvT hZ (tw8 hw)) (mvT hZ (tw9 hw)) (by decide) (backOfS (W := 1) (rm_Trip_new_0 l Z a0 hw [] b113 ar dp hot ci0 ci0 h113 n0 f148 A113 hc0 hc1 hc2 hc3 f114 g130 f115 f116) hZ (tw9 hw) (tw6 hw) (by decide) (by decide)) (g := (mkF m 50 #[vi p1, vi p2, vi p3, vi p4, vi ar, vi dp, vr hot, .unset, .unset, .unset, .unset, .unset, .unset] [(.ref hot), (.int dp), (.int ar), (.ref b113), (.ref b113)])) rfl (by rw [hml]; rfl) (Steps.refl _) (a := b113) (argsL := [(.int ar), (.int dp), (.ref hot)]) (rest := [(.ref b113)]) (lenOf pd_6 rfl) rfl (Nat.le_of_eq rfl) (hb hby at_50) (fun _ _ => ⟨rfl, e113, (by decide : 1 + 2 ≤ _), (by decide : 3 + 24 ≤ _)⟩)
    dsimp only [Pt.U, Pt.locs, Pt.cells, Pt.slots] at X149s hs149 hg149 l149 y149 z149 st149 hQ149
    subst l149 y149 z149
    have f150 := (Nat.le_trans (Nat.le_refl _) E113.1)
    obtain ⟨X149, hS149, hZ149, hown149⟩ := rebS hS0 (by rw [e113]; exact f150) X149s hs149 hg149 hZ hown
    obtain ⟨rfl, N149q, K149, P149_0, P149_1, P149_2⟩ := hQ149
    have N151 := Fr.app Nj110 N149q
    refine GoW.step (fun _ k => st149.trans (XS.astore X149.here hx rfl (hb hby at_53) rfl rfl (l' := #[vi p1, vi p2, vi p3, vi p4, vi ar, vi dp, vr hot, vr b113, .unset, .unset, .unset, .unset, .unset]) rfl (XS.aload X149.here hx rfl (hb hby at_55) rfl rfl (XS.iloadN X149.here hx rfl (hb hby at_57) rfl k)))) ?_
    show GoW p e below s _ _ _ T149 (mkF m 58 #[vi p1, vi p2, vi p3, vi p4, vi ar, vi dp, vr hot, vr b113, .unset, .unset, .unset, .unset, .unset] [(.int p4), (.ref b113)])
    have f152 := (Nat.le_trans f148 K149.1)
    have f154 := (A113.keep K149)
    obtain ⟨cq153, kq153, q153a, q153b, q153c⟩ := isOf hZ149 rfl f154
    obtain ⟨_, _, ⟨T153, L153, k153, n153⟩, -, X153, ⟨Lc153, hQ153, l153, y153, z153⟩, st153⟩ := X149.virtualBack hx (y := xm0) (z := xm0) hown149 (mvT hZ149 (tw39 hw)) (mvT hZ149 (tw40 hw)) (notFace_of_selects (args := #[]) (mvT hZ149 (tw42 hw))) (mvT hZ149 (tw42 hw)) (mvT hZ149 (tw41 hw)) (by decide) (backOf (W := 0) (rm_nit l Z a0 hw [] b113 ar dp p4 T149.heap n0 f152 P149_0 P149_1) hZ149 (tw43 hw) (tw6 hw) (by decide) (by decide)) q153a q153c (g := (mkF m 58 #[vi p1, vi p2, vi p3, vi p4, vi ar, vi dp, vr hot, vr b113, .unset, .unset, .unset, .unset, .unset] [(.int p4), (.ref b113)])) rfl (by rw [hml]; rfl) (Steps.refl _) (argsL := [(.int p4)]) (rest := []) (lenOf pd_7 rfl) rfl (Nat.le_of_eq rfl) (hb hby at_58) (fun _ _ => ⟨rfl, rfl, (by decide : 3 + 0 ≤ _), (by decide : 27 + 0 ≤ _)⟩)
    dsimp only [Pt.U, Pt.locs, Pt.cells, Pt.slots] at X153 l153 y153 z153 st153 hQ153
    subst l153 y153 z153
    obtain ⟨rfl, N153q, eq153⟩ := hQ153
    have N155 := Fr.app N151 N153q
    refine GoW.step (fun _ k => st153.trans k) ?_
    show GoW p e below s _ _ _ T153 (mkF m 61 #[vi p1, vi p2, vi p3, vi p4, vi ar, vi dp, vr hot, vr b113, .unset, .unset, .unset, .unset, .unset] [(.int (own_nit ar dp p4))])
    obtain ⟨got, egot⟩ : ∃ z, z = (own_nit ar dp p4) := ⟨_, rfl⟩
    rw [← egot]
    refine GoW.step (fun _ k => XS.istore X153.here hx rfl (hb hby at_61) rfl (l' := #[vi p1, vi p2, vi p3, vi p4, vi ar, vi dp, vr hot, vr b113, vi got, .unset, .unset, .unset, .unset]) rfl (XS.iloadN X153.here hx rfl (hb hby at_63) rfl (XS.iconst X153.here hx rfl (hb hby at_64) k))) ?_
    show GoW p e below s _ _ _ T153 (mkF m 65 #[vi p1, vi p2, vi p3, vi p4, vi ar, vi dp, vr hot, vr b113, vi got, .unset, .unset, .unset, .unset] [cv1, (.int p4)])
    by_cases hlo : p4 < ci1
    · obtain rfl : got = ci0 := egot.trans (own_nlo hD hlo)
      refine GoW.step (fun _ k => XS.icmpYes X153.here hx rfl (pc0 := 65) (pc' := 73) rfl (hb hby at_65) rfl (tlt hlo).1 (by decide) (by decide) (XS.iload X153.here hx rfl (hb hby at_73) rfl (XS.ifNo X153.here hx rfl (hb hby at_75) rfl ((if0 _ _).trans (teq (by decide)).2) (XS.iconst X153.here hx rfl (hb hby at_78) (XS.goto X153.here hx rfl (pc0 := 79) (pc' := 83) rfl (hb hby at_79) (by decide) (by decide) k))))) ?_
      show GoW p e below s _ _ _ T153 (mkF m 83 #[vi p1, vi p2, vi p3, vi p4, vi ar, vi dp, vr hot, vr b113, .val cv0, .unset, .unset, .unset, .unset] [cv1])
      exact GoW.retN X153 hS149 hx hlk (t := .boolean) Bd.returns (by simp) (hb hby at_83) eq153 (Nat.le_refl _) ⟨rfl, N155⟩ (by decide) (by decide)
    · refine GoW.step (fun _ k => XS.icmpNo X153.here hx rfl (hb hby at_65) rfl (flt hlo).1 (XS.iloadN X153.here hx rfl (hb hby at_68) rfl (XS.iconst X153.here hx rfl (hb hby at_69) k))) ?_
      show GoW p e below s _ _ _ T153 (mkF m 70 #[vi p1, vi p2, vi p3, vi p4, vi ar, vi dp, vr hot, vr b113, vi got, .unset, .unset, .unset, .unset] [cv4, (.int p4)])
      by_cases hhi : ci4 < p4
      · obtain rfl : got = ci0 := egot.trans (own_nhi hD hhi)
        refine GoW.step (fun _ k => XS.icmpNo X153.here hx rfl (hb hby at_70) rfl (tlt hhi).2.2.2 (XS.iload X153.here hx rfl (hb hby at_73) rfl (XS.ifNo X153.here hx rfl (hb hby at_75) rfl ((if0 _ _).trans (teq (by decide)).2) (XS.iconst X153.here hx rfl (hb hby at_78) (XS.goto X153.here hx rfl (pc0 := 79) (pc' := 83) rfl (hb hby at_79) (by decide) (by decide) k))))) ?_
        show GoW p e below s _ _ _ T153 (mkF m 83 #[vi p1, vi p2, vi p3, vi p4, vi ar, vi dp, vr hot, vr b113, .val cv0, .unset, .unset, .unset, .unset] [cv1])
        exact GoW.retN X153 hS149 hx hlk (t := .boolean) Bd.returns (by simp) (hb hby at_83) eq153 (Nat.le_refl _) ⟨rfl, N155⟩ (by decide) (by decide)
      · have hd : own_I p4 := own_d4 hlo hhi
        refine GoW.step (fun _ k => XS.icmpYes X153.here hx rfl (pc0 := 70) (pc' := 84) rfl (hb hby at_70) rfl (flt hhi).2.2.2 (by decide) (by decide) k) ?_
        show GoW p e below s _ _ _ T153 (mkF m 84 #[vi p1, vi p2, vi p3, vi p4, vi ar, vi dp, vr hot, vr b113, vi got, .unset, .unset, .unset, .unset] [])
        have hO : own_O dp := own_hO hD
        obtain ⟨xi, pkxi, Zxi⟩ := own_inf hAll har
        have f156 := ((O0.ext E113).keep K149 (allS g130 all0))
        have f157 := Zxi.ext f156.2
        obtain ⟨xo, pkxo, Zxo, ne_xo⟩ := own_outf hAll hO
        have f158 := Zxo.ext f156.2
        have hkk := own_kk hKk
        obtain ⟨yd, pkyd, Zyd⟩ := own_rm hAll hkk hd
        have f159 := Zyd.ext f156.2
        rcases own_n hD with hn | hn | hn | hn
        · obtain ⟨hl0, hl1⟩ := hn
          obtain ⟨yy0, pkyy0, Zyy0⟩ := own_rm hAll hkk har
          have f160 := Zyy0.ext f156.2
          refine GoW.step (fun _ k => XS.aload X153.here hx rfl (hb hby at_84) rfl rfl k) ?_
          show GoW p e below s _ _ _ T153 (mkF m 86 #[vi p1, vi p2, vi p3, vi p4, vi ar, vi dp, vr hot, vr b113, vi got, .unset, .unset, .unset, .unset] [(.ref b113)])
          obtain ⟨cq454, kq454, q454a, q454b, q454c⟩ := isOf hZ149 eq153 f154
          obtain ⟨_, _, ⟨T454, L454, k454, n454⟩, -, X454, ⟨Lc454, hQ454, l454, y454, z454⟩, st454⟩ := X153.virtualBack hx (y := xm23) (z := xm23) hown149 (mvT hZ149 (tw44 hw)) (mvT hZ149 (tw45 hw)) (notFace_of_selects (args := #[]) (mvT hZ149 (tw47 hw))) (mvT hZ149 (tw47 hw)) (mvT hZ149 (tw46 hw)) (by decide) (backOf (W := 0) (rm_Trip_goods_0 l Z a0 hw [] b113 ar els xi dp xo em m12 mal moa hot kk yy0 hg li al ea kea lo lg lc T149.heap n0 f152 P149_0 pkxi har f156 Z_S_INFLIGHT Z_E_li Z_F_first_li Z_F_ordinal_li Z_S_ALL Z_E_al Z_F_elements_al Z_A_ea f157 P149_1 pkxo hO Z_S_OUTFLIGHT Z_E_lo Z_F_first_lo Z_F_ordinal_lo f158 Z_S_EMPTY Z_E_em ne_xo M_m12 M_mal (Mir.ne M_m12 M_mal (by decide)) M_moa hl0 P149_2 pkyy0 hKk Z_S_GOOD Z_S_GOOD_HOTEL Z_E_lg Z_F_first_lg Z_F_ordinal_lg Z_S_CHEAP_HOTEL Z_E_lc Z_F_first_lc Z_F_ordinal_lc f160 hl1) hZ149 (tw48 hw) (tw6 hw) (by decide) (by decide)) q454a q454c (g := (mkF m 86 #[vi p1, vi p2, vi p3, vi p4, vi ar, vi dp, vr hot, vr b113, vi got, .unset, .unset, .unset, .unset] [(.ref b113)])) rfl (by rw [hml]; rfl) (Steps.refl _) (argsL := []) (rest := []) (lenOf pd_22 rfl) rfl (Nat.le_of_eq rfl) (hb hby at_86) (fun _ _ => ⟨rfl, eq153, (by decide : 3 + 5 ≤ _), (by decide : 27 + 12 ≤ _)⟩)
          dsimp only [Pt.U, Pt.locs, Pt.cells, Pt.slots] at X454 l454 y454 z454 st454 hQ454
          subst l454 y454 z454
          obtain ⟨uu19, uu20, uu21, rfl, N454q, K454, P454_0, P454_1, P454_2, P454_3, P454_4, P454_5, P454_6, P454_7, P454_8, P454_9⟩ := hQ454
          have N455 := Fr.app N155 N454q
          refine GoW.step (fun _ k => st454.trans (XS.astore X454.here hx rfl (hb hby at_89) rfl rfl (l' := #[vi p1, vi p2, vi p3, vi p4, vi ar, vi dp, vr hot, vr b113, vi got, vr uu19, .unset, .unset, .unset]) rfl (XS.aload X454.here hx rfl (hb hby at_91) rfl rfl (XS.iloadN X454.here hx rfl (hb hby at_93) rfl k)))) ?_
          show GoW p e below s _ _ _ T454 (mkF m 94 #[vi p1, vi p2, vi p3, vi p4, vi ar, vi dp, vr hot, vr b113, vi got, vr uu19, .unset, .unset, .unset] [(.int p4), (.ref hot)])
          have f456 := (f156.keep K454 all0)
          have f457 := (Nat.le_trans f152 K454.1)
          have f458 := (f159.keep K454)
          obtain ⟨_, _, ⟨T459, L459, k459, n459⟩, -, X459, ⟨Lc459, hQ459, l459, y459, z459⟩, st459⟩ := Jvm.LawKit.callS X454 hx (y := xm30) hown149 (mvT hZ149 (tw235 hw)) (mvT hZ149 (tw189 hw)) (mvT hZ149 (tw54 hw)) (mvT hZ149 (tw190 hw)) (by decide) (backOf (W := 0) (rm_room l Z a0 hw [] hot kk p4 yd hg lg lc al ea kea els T454.heap n0 f457 f456 Z_S_GOOD Z_S_GOOD_HOTEL Z_E_lg Z_F_first_lg Z_F_ordinal_lg Z_S_CHEAP_HOTEL Z_E_lc Z_F_first_lc Z_F_ordinal_lc Z_S_ALL Z_E_al Z_F_elements_al Z_A_ea f458 hKk hd pkyd) hZ149 (tw190 hw) (tw54 hw) (by decide) (by decide)) (g := (mkF m 94 #[vi p1, vi p2, vi p3, vi p4, vi ar, vi dp, vr hot, vr b113, vi got, vr uu19, .unset, .unset, .unset] [(.int p4), (.ref hot)])) rfl (by rw [hml]; rfl) (argsL := [(.ref hot), (.int p4)]) (rest := []) (lenOf pd_16 rfl) rfl (Nat.le_of_eq rfl) (hb hby at_94) (fun _ _ => ⟨rfl, rfl, (by decide : 8 + 0 ≤ _), (by decide : 39 + 0 ≤ _)⟩)
          dsimp only [Pt.U, Pt.locs, Pt.cells, Pt.slots] at X459 l459 y459 z459 st459 hQ459
          subst l459 y459 z459
          obtain ⟨rfl, N459q, eq459⟩ := hQ459
          have N460 := Fr.app N455 N459q
          refine GoW.step (fun _ k => st459 _ (XS.astore X459.here hx rfl (hb hby at_97) rfl rfl (l' := #[vi p1, vi p2, vi p3, vi p4, vi ar, vi dp, vr hot, vr b113, vi got, vr uu19, vr yd, .unset, .unset]) rfl (XS.aload X459.here hx rfl (hb hby at_99) rfl rfl k))) ?_
          show GoW p e below s _ _ _ T459 (mkF m 101 #[vi p1, vi p2, vi p3, vi p4, vi ar, vi dp, vr hot, vr b113, vi got, vr uu19, vr yd, .unset, .unset] [(.ref uu19)])
          obtain ⟨cq463, kq463, q463a, q463b, q463c⟩ := isOf hZ149 eq459 P454_1
          obtain ⟨_, _, ⟨T463, L463, k463, n463⟩, -, X463, ⟨Lc463, hQ463, l463, y463, z463⟩, st463⟩ := X459.interfaceBack hx (xi := xm25) (y := xm24) hown149 (mvT hZ149 (tw236 hw)) (mvT hZ149 (tw237 hw)) (mvT hZ149 (tw238 hw)) (mvT hZ149 (tw239 hw)) (mvT hZ149 (tw240 hw)) (mvT hZ149 (tw241 hw)) (mvT hZ149 (tw242 hw)) (mvT hZ149 (tw202 hw)) (by decide) (backOf (W := 0) (rm_ArrayList_size_0 l Z a0 hw [] uu19 ci3 T454.heap n0 f457 P454_3) hZ149 (tw243 hw) (tw51 hw) (by decide) (by decide)) q463a q463b q463c (g := (mkF m 101 #[vi p1, vi p2, vi p3, vi p4, vi ar, vi dp, vr hot, vr b113, vi got, vr uu19, vr yd, .unset, .unset] [(.ref uu19)])) rfl (by rw [hml]; rfl) (Steps.refl _) (argsL := []) (rest := []) (lenOf pd_0 rfl) rfl (Nat.le_of_eq rfl) (hb hby at_101) (fun _ _ => ⟨rfl, eq459, (by decide : 8 + 0 ≤ _), (by decide : 39 + 0 ≤ _)⟩)
          dsimp only [Pt.U, Pt.locs, Pt.cells, Pt.slots] at X463 l463 y463 z463 st463 hQ463
          subst l463 y463 z463
          obtain ⟨rfl, N463q, eq463⟩ := hQ463
          have N464 := Fr.app N460 N463q
          refine GoW.step (fun _ k => st463.trans k) ?_
          show GoW p e below s _ _ _ T463 (mkF m 106 #[vi p1, vi p2, vi p3, vi p4, vi ar, vi dp, vr hot, vr b113, vi got, vr uu19, vr yd, .unset, .unset] [cv3])
          by_cases hj0 : p4 = ar
          · have hey : yy0 = yd := own_same1 pkyy0 pkyd hj0
            obtain rfl : got = ci1 := egot.trans (own_yes0 hD hj0 hl0)
            refine GoW.step (fun _ k => XS.istore X463.here hx rfl (hb hby at_106) rfl (l' := #[vi p1, vi p2, vi p3, vi p4, vi ar, vi dp, vr hot, vr b113, .val cv1, vr uu19, vr yd, .val cv3, .unset]) rfl (XS.aload X463.here hx rfl (hb hby at_108) rfl rfl (XS.iload X463.here hx rfl (hb hby at_110) rfl (XS.iconst X463.here hx rfl (hb hby at_112) (XS.aload X463.here hx rfl (hb hby at_113) rfl rfl k))))) ?_
            show GoW p e below s _ _ _ T463 (mkF m 115 #[vi p1, vi p2, vi p3, vi p4, vi ar, vi dp, vr hot, vr b113, .val cv1, vr uu19, vr yd, .val cv3, .unset] [(.ref yd), cv2, cv3, (.ref uu19)])
            obtain ⟨_, _, ⟨T500, L500, k500, n500⟩, -, X500, ⟨Lc500, hQ500, l500, y500, z500⟩, st500⟩ := Jvm.LawKit.callS X463 hx (y := xm39) hown149 (mvT hZ149 (tw244 hw)) (mvT hZ149 (tw245 hw)) (mvT hZ149 (tw246 hw)) (mvT hZ149 (tw247 hw)) (by decide) (backOf (W := 0) (rm_TripNightInTownPinLaw_at_0 l Z a0 hw [] uu19 ci3 ci2 yd ci3 uu20 uu21 ci3 ([(.ref xi), (.ref xo), (.ref yy0)]) yy0 T454.heap n0 f457 (by decide) P454_1 P454_3 P454_4 P454_7 rfl (by decide) (by decide) (by decide) hey) hZ149 (tw247 hw) (tw246 hw) (by decide) (by decide)) (g := (mkF m 115 #[vi p1, vi p2, vi p3, vi p4, vi ar, vi dp, vr hot, vr b113, .val cv1, vr uu19, vr yd, .val cv3, .unset] [(.ref yd), cv2, cv3, (.ref uu19)])) rfl (by rw [hml]; rfl) (argsL := [(.ref uu19), cv3, cv2, (.ref yd)]) (rest := []) (lenOf pd_24 rfl) rfl (Nat.le_of_eq rfl) (hb hby at_115) (fun _ _ => ⟨rfl, eq463, (by decide : 8 + 0 ≤ _), (by decide : 39 + 0 ≤ _)⟩)
            dsimp only [Pt.U, Pt.locs, Pt.cells, Pt.slots] at X500 l500 y500 z500 st500 hQ500
            subst l500 y500 z500
            obtain ⟨rfl, N500q, eq500⟩ := hQ500
            have N501 := Fr.app N464 N500q
            refine GoW.step (fun _ k => st500 _ (XS.ifYes X500.here hx rfl (pc0 := 118) (pc' := 160) rfl (hb hby at_118) rfl ((if0 _ _).trans (feq (by decide)).2) (by decide) (by decide) (XS.iconst X500.here hx rfl (hb hby at_160) (XS.goto X500.here hx rfl (pc0 := 161) (pc' := 165) rfl (hb hby at_161) (by decide) (by decide) (XS.istore X500.here hx rfl (hb hby at_165) rfl (l' := #[vi p1, vi p2, vi p3, vi p4, vi ar, vi dp, vr hot, vr b113, .val cv1, vr uu19, vr yd, .val cv3, .val cv1]) rfl (XS.iload X500.here hx rfl (hb hby at_167) rfl (XS.iload X500.here hx rfl (hb hby at_169) rfl (XS.icmpNo X500.here hx rfl (hb hby at_171) rfl (teq (by decide)).2 (XS.iconst X500.here hx rfl (hb hby at_174) (XS.goto X500.here hx rfl (pc0 := 175) (pc' := 179) rfl (hb hby at_175) (by decide) (by decide) k)))))))))) ?_
            show GoW p e below s _ _ _ T500 (mkF m 179 #[vi p1, vi p2, vi p3, vi p4, vi ar, vi dp, vr hot, vr b113, .val cv1, vr uu19, vr yd, .val cv3, .val cv1] [cv1])
            have f502 := (Nat.le_trans (Nat.le_refl _) K454.1)
            exact GoW.retN X500 hS149 hx hlk (t := .boolean) Bd.returns (by simp) (hb hby at_179) eq500 f502 ⟨rfl, N501⟩ (by decide) (by decide)
          · have hne0 : yy0 ≠ yd := own_inj hAll hkk har hd pkyy0 pkyd (fun q => hj0 q.symm)
            obtain rfl : got = ci0 := egot.trans (own_no1 hD hd hj0 hl1)
            refine GoW.step (fun _ k => XS.istore X463.here hx rfl (hb hby at_106) rfl (l' := #[vi p1, vi p2, vi p3, vi p4, vi ar, vi dp, vr hot, vr b113, .val cv0, vr uu19, vr yd, .val cv3, .unset]) rfl (XS.aload X463.here hx rfl (hb hby at_108) rfl rfl (XS.iload X463.here hx rfl (hb hby at_110) rfl (XS.iconst X463.here hx rfl (hb hby at_112) (XS.aload X463.here hx rfl (hb hby at_113) rfl rfl k))))) ?_
            show GoW p e below s _ _ _ T463 (mkF m 115 #[vi p1, vi p2, vi p3, vi p4, vi ar, vi dp, vr hot, vr b113, .val cv0, vr uu19, vr yd, .val cv3, .unset] [(.ref yd), cv2, cv3, (.ref uu19)])
            obtain ⟨_, _, ⟨T516, L516, k516, n516⟩, -, X516, ⟨Lc516, hQ516, l516, y516, z516⟩, st516⟩ := Jvm.LawKit.callS X463 hx (y := xm39) hown149 (mvT hZ149 (tw244 hw)) (mvT hZ149 (tw245 hw)) (mvT hZ149 (tw246 hw)) (mvT hZ149 (tw247 hw)) (by decide) (backOf (W := 0) (rm_TripNightInTownPinLaw_at_1 l Z a0 hw [] uu19 ci3 ci2 yd ci3 uu20 uu21 ci3 ([(.ref xi), (.ref xo), (.ref yy0)]) yy0 T454.heap n0 f457 (by decide) P454_1 P454_3 P454_4 P454_7 rfl (by decide) (by decide) (by decide) hne0) hZ149 (tw247 hw) (tw246 hw) (by decide) (by decide)) (g := (mkF m 115 #[vi p1, vi p2, vi p3, vi p4, vi ar, vi dp, vr hot, vr b113, .val cv0, vr uu19, vr yd, .val cv3, .unset] [(.ref yd), cv2, cv3, (.ref uu19)])) rfl (by rw [hml]; rfl) (argsL := [(.ref uu19), cv3, cv2, (.ref yd)]) (rest := []) (lenOf pd_24 rfl) rfl (Nat.le_of_eq rfl) (hb hby at_115) (fun _ _ => ⟨rfl, eq463, (by decide : 8 + 0 ≤ _), (by decide : 39 + 0 ≤ _)⟩)
            dsimp only [Pt.U, Pt.locs, Pt.cells, Pt.slots] at X516 l516 y516 z516 st516 hQ516
            subst l516 y516 z516
            obtain ⟨rfl, N516q, eq516⟩ := hQ516
            have N517 := Fr.app N464 N516q
            refine GoW.step (fun _ k => st516 _ (XS.ifNo X516.here hx rfl (hb hby at_118) rfl ((if0 _ _).trans (teq (by decide)).2) (XS.aload X516.here hx rfl (hb hby at_121) rfl rfl (XS.iload X516.here hx rfl (hb hby at_123) rfl (XS.iconst X516.here hx rfl (hb hby at_125) (XS.aload X516.here hx rfl (hb hby at_126) rfl rfl k)))))) ?_
            show GoW p e below s _ _ _ T516 (mkF m 128 #[vi p1, vi p2, vi p3, vi p4, vi ar, vi dp, vr hot, vr b113, .val cv0, vr uu19, vr yd, .val cv3, .unset] [(.ref yd), cv3, cv3, (.ref uu19)])
            obtain ⟨_, _, ⟨T521, L521, k521, n521⟩, -, X521, ⟨Lc521, hQ521, l521, y521, z521⟩, st521⟩ := Jvm.LawKit.callS X516 hx (y := xm39) hown149 (mvT hZ149 (tw244 hw)) (mvT hZ149 (tw245 hw)) (mvT hZ149 (tw246 hw)) (mvT hZ149 (tw247 hw)) (by decide) (backOf (W := 0) (rm_TripNightInTownPinLaw_at_2 l Z a0 hw [] uu19 ci3 ci3 yd T454.heap n0 f457 (by decide)) hZ149 (tw247 hw) (tw246 hw) (by decide) (by decide)) (g := (mkF m 128 #[vi p1, vi p2, vi p3, vi p4, vi ar, vi dp, vr hot, vr b113, .val cv0, vr uu19, vr yd, .val cv3, .unset] [(.ref yd), cv3, cv3, (.ref uu19)])) rfl (by rw [hml]; rfl) (argsL := [(.ref uu19), cv3, cv3, (.ref yd)]) (rest := []) (lenOf pd_24 rfl) rfl (Nat.le_of_eq rfl) (hb hby at_128) (fun _ _ => ⟨rfl, eq516, (by decide : 8 + 0 ≤ _), (by decide : 39 + 0 ≤ _)⟩)
            dsimp only [Pt.U, Pt.locs, Pt.cells, Pt.slots] at X521 l521 y521 z521 st521 hQ521
            subst l521 y521 z521
            obtain ⟨rfl, N521q, eq521⟩ := hQ521
            have N522 := Fr.app N517 N521q
            refine GoW.step (fun _ k => st521 _ (XS.ifNo X521.here hx rfl (hb hby at_131) rfl ((if0 _ _).trans (teq (by decide)).2) (XS.aload X521.here hx rfl (hb hby at_134) rfl rfl (XS.iload X521.here hx rfl (hb hby at_136) rfl (XS.iconst X521.here hx rfl (hb hby at_138) (XS.aload X521.here hx rfl (hb hby at_139) rfl rfl k)))))) ?_
            show GoW p e below s _ _ _ T521 (mkF m 141 #[vi p1, vi p2, vi p3, vi p4, vi ar, vi dp, vr hot, vr b113, .val cv0, vr uu19, vr yd, .val cv3, .unset] [(.ref yd), cv4, cv3, (.ref uu19)])
            obtain ⟨_, _, ⟨T523, L523, k523, n523⟩, -, X523, ⟨Lc523, hQ523, l523, y523, z523⟩, st523⟩ := Jvm.LawKit.callS X521 hx (y := xm39) hown149 (mvT hZ149 (tw244 hw)) (mvT hZ149 (tw245 hw)) (mvT hZ149 (tw246 hw)) (mvT hZ149 (tw247 hw)) (by decide) (backOf (W := 0) (rm_TripNightInTownPinLaw_at_2 l Z a0 hw [] uu19 ci3 ci4 yd T454.heap n0 f457 (by decide)) hZ149 (tw247 hw) (tw246 hw) (by decide) (by decide)) (g := (mkF m 141 #[vi p1, vi p2, vi p3, vi p4, vi ar, vi dp, vr hot, vr b113, .val cv0, vr uu19, vr yd, .val cv3, .unset] [(.ref yd), cv4, cv3, (.ref uu19)])) rfl (by rw [hml]; rfl) (argsL := [(.ref uu19), cv3, cv4, (.ref yd)]) (rest := []) (lenOf pd_24 rfl) rfl (Nat.le_of_eq rfl) (hb hby at_141) (fun _ _ => ⟨rfl, eq521, (by decide : 8 + 0 ≤ _), (by decide : 39 + 0 ≤ _)⟩)
            dsimp only [Pt.U, Pt.locs, Pt.cells, Pt.slots] at X523 l523 y523 z523 st523 hQ523
            subst l523 y523 z523
            obtain ⟨rfl, N523q, eq523⟩ := hQ523
            have N524 := Fr.app N522 N523q
            refine GoW.step (fun _ k => st523 _ (XS.ifNo X523.here hx rfl (hb hby at_144) rfl ((if0 _ _).trans (teq (by decide)).2) (XS.aload X523.here hx rfl (hb hby at_147) rfl rfl (XS.iload X523.here hx rfl (hb hby at_149) rfl (XS.iconst X523.here hx rfl (hb hby at_151) (XS.aload X523.here hx rfl (hb hby at_152) rfl rfl k)))))) ?_
            show GoW p e below s _ _ _ T523 (mkF m 154 #[vi p1, vi p2, vi p3, vi p4, vi ar, vi dp, vr hot, vr b113, .val cv0, vr uu19, vr yd, .val cv3, .unset] [(.ref yd), cv5, cv3, (.ref uu19)])
            obtain ⟨_, _, ⟨T525, L525, k525, n525⟩, -, X525, ⟨Lc525, hQ525, l525, y525, z525⟩, st525⟩ := Jvm.LawKit.callS X523 hx (y := xm39) hown149 (mvT hZ149 (tw244 hw)) (mvT hZ149 (tw245 hw)) (mvT hZ149 (tw246 hw)) (mvT hZ149 (tw247 hw)) (by decide) (backOf (W := 0) (rm_TripNightInTownPinLaw_at_2 l Z a0 hw [] uu19 ci3 ci5 yd T454.heap n0 f457 (by decide)) hZ149 (tw247 hw) (tw246 hw) (by decide) (by decide)) (g := (mkF m 154 #[vi p1, vi p2, vi p3, vi p4, vi ar, vi dp, vr hot, vr b113, .val cv0, vr uu19, vr yd, .val cv3, .unset] [(.ref yd), cv5, cv3, (.ref uu19)])) rfl (by rw [hml]; rfl) (argsL := [(.ref uu19), cv3, cv5, (.ref yd)]) (rest := []) (lenOf pd_24 rfl) rfl (Nat.le_of_eq rfl) (hb hby at_154) (fun _ _ => ⟨rfl, eq523, (by decide : 8 + 0 ≤ _), (by decide : 39 + 0 ≤ _)⟩)
            dsimp only [Pt.U, Pt.locs, Pt.cells, Pt.slots] at X525 l525 y525 z525 st525 hQ525
            subst l525 y525 z525
            obtain ⟨rfl, N525q, eq525⟩ := hQ525
            have N526 := Fr.app N524 N525q
            refine GoW.step (fun _ k => st525 _ (XS.ifYes X525.here hx rfl (pc0 := 157) (pc' := 164) rfl (hb hby at_157) rfl ((if0 _ _).trans (teq (by decide)).1) (by decide) (by decide) (XS.iconst X525.here hx rfl (hb hby at_164) (XS.istore X525.here hx rfl (hb hby at_165) rfl (l' := #[vi p1, vi p2, vi p3, vi p4, vi ar, vi dp, vr hot, vr b113, .val cv0, vr uu19, vr yd, .val cv3, .val cv0]) rfl (XS.iload X525.here hx rfl (hb hby at_167) rfl (XS.iload X525.here hx rfl (hb hby at_169) rfl (XS.icmpNo X525.here hx rfl (hb hby at_171) rfl (teq (by decide)).2 (XS.iconst X525.here hx rfl (hb hby at_174) (XS.goto X525.here hx rfl (pc0 := 175) (pc' := 179) rfl (hb hby at_175) (by decide) (by decide) k))))))))) ?_
            show GoW p e below s _ _ _ T525 (mkF m 179 #[vi p1, vi p2, vi p3, vi p4, vi ar, vi dp, vr hot, vr b113, .val cv0, vr uu19, vr yd, .val cv3, .val cv0] [cv1])
            have f527 := (Nat.le_trans (Nat.le_refl _) K454.1)
            exact GoW.retN X525 hS149 hx hlk (t := .boolean) Bd.returns (by simp) (hb hby at_179) eq525 f527 ⟨rfl, N526⟩ (by decide) (by decide)
        · obtain ⟨hl0, hl1, hI1, hl2⟩ := hn
          obtain ⟨yy0, pkyy0, Zyy0⟩ := own_rm hAll hkk har
          have f528 := Zyy0.ext f156.2
          obtain ⟨yy1, pkyy1, Zyy1⟩ := own_rm hAll hkk hI1
          have f529 := Zyy1.ext f156.2
          refine GoW.step (fun _ k => XS.aload X153.here hx rfl (hb hby at_84) rfl rfl k) ?_
          show GoW p e below s _ _ _ T153 (mkF m 86 #[vi p1, vi p2, vi p3, vi p4, vi ar, vi dp, vr hot, vr b113, vi got, .unset, .unset, .unset, .unset] [(.ref b113)])
          obtain ⟨cq709, kq709, q709a, q709b, q709c⟩ := isOf hZ149 eq153 f154
          obtain ⟨_, _, ⟨T709, L709, k709, n709⟩, -, X709, ⟨Lc709, hQ709, l709, y709, z709⟩, st709⟩ := X153.virtualBack hx (y := xm23) (z := xm23) hown149 (mvT hZ149 (tw44 hw)) (mvT hZ149 (tw45 hw)) (notFace_of_selects (args := #[]) (mvT hZ149 (tw47 hw))) (mvT hZ149 (tw47 hw)) (mvT hZ149 (tw46 hw)) (by decide) (backOf (W := 0) (rm_Trip_goods_1 l Z a0 hw [] b113 ar els xi dp xo m12 mal moa em hot kk yy0 hg yy1 li al ea kea lo lg lc T149.heap n0 f152 P149_0 pkxi har f156 Z_S_INFLIGHT Z_E_li Z_F_first_li Z_F_ordinal_li Z_S_ALL Z_E_al Z_F_elements_al Z_A_ea f157 P149_1 pkxo hO Z_S_OUTFLIGHT Z_E_lo Z_F_first_lo Z_F_ordinal_lo f158 M_m12 M_mal M_moa Z_S_EMPTY Z_E_em ne_xo (Mir.ne M_m12 M_mal (by decide)) hl0 P149_2 pkyy0 hKk Z_S_GOOD Z_S_GOOD_HOTEL Z_E_lg Z_F_first_lg Z_F_ordinal_lg Z_S_CHEAP_HOTEL Z_E_lc Z_F_first_lc Z_F_ordinal_lc f528 hl1 pkyy1 hI1 f529 hl2) hZ149 (tw48 hw) (tw6 hw) (by decide) (by decide)) q709a q709c (g := (mkF m 86 #[vi p1, vi p2, vi p3, vi p4, vi ar, vi dp, vr hot, vr b113, vi got, .unset, .unset, .unset, .unset] [(.ref b113)])) rfl (by rw [hml]; rfl) (Steps.refl _) (argsL := []) (rest := []) (lenOf pd_22 rfl) rfl (Nat.le_of_eq rfl) (hb hby at_86) (fun _ _ => ⟨rfl, eq153, (by decide : 3 + 6 ≤ _), (by decide : 27 + 16 ≤ _)⟩)
          dsimp only [Pt.U, Pt.locs, Pt.cells, Pt.slots] at X709 l709 y709 z709 st709 hQ709
          subst l709 y709 z709
          obtain ⟨uu67, uu68, uu69, rfl, N709q, K709, P709_0, P709_1, P709_2, P709_3, P709_4, P709_5, P709_6, P709_7, P709_8, P709_9⟩ := hQ709
          have N710 := Fr.app N155 N709q
          refine GoW.step (fun _ k => st709.trans (XS.astore X709.here hx rfl (hb hby at_89) rfl rfl (l' := #[vi p1, vi p2, vi p3, vi p4, vi ar, vi dp, vr hot, vr b113, vi got, vr uu67, .unset, .unset, .unset]) rfl (XS.aload X709.here hx rfl (hb hby at_91) rfl rfl (XS.iloadN X709.here hx rfl (hb hby at_93) rfl k)))) ?_
          show GoW p e below s _ _ _ T709 (mkF m 94 #[vi p1, vi p2, vi p3, vi p4, vi ar, vi dp, vr hot, vr b113, vi got, vr uu67, .unset, .unset, .unset] [(.int p4), (.ref hot)])
          have f711 := (f156.keep K709 all0)
          have f712 := (Nat.le_trans f152 K709.1)
          have f713 := (f159.keep K709)
          obtain ⟨_, _, ⟨T714, L714, k714, n714⟩, -, X714, ⟨Lc714, hQ714, l714, y714, z714⟩, st714⟩ := Jvm.LawKit.callS X709 hx (y := xm30) hown149 (mvT hZ149 (tw235 hw)) (mvT hZ149 (tw189 hw)) (mvT hZ149 (tw54 hw)) (mvT hZ149 (tw190 hw)) (by decide) (backOf (W := 0) (rm_room l Z a0 hw [] hot kk p4 yd hg lg lc al ea kea els T709.heap n0 f712 f711 Z_S_GOOD Z_S_GOOD_HOTEL Z_E_lg Z_F_first_lg Z_F_ordinal_lg Z_S_CHEAP_HOTEL Z_E_lc Z_F_first_lc Z_F_ordinal_lc Z_S_ALL Z_E_al Z_F_elements_al Z_A_ea f713 hKk hd pkyd) hZ149 (tw190 hw) (tw54 hw) (by decide) (by decide)) (g := (mkF m 94 #[vi p1, vi p2, vi p3, vi p4, vi ar, vi dp, vr hot, vr b113, vi got, vr uu67, .unset, .unset, .unset] [(.int p4), (.ref hot)])) rfl (by rw [hml]; rfl) (argsL := [(.ref hot), (.int p4)]) (rest := []) (lenOf pd_16 rfl) rfl (Nat.le_of_eq rfl) (hb hby at_94) (fun _ _ => ⟨rfl, rfl, (by decide : 9 + 0 ≤ _), (by decide : 43 + 0 ≤ _)⟩)
          dsimp only [Pt.U, Pt.locs, Pt.cells, Pt.slots] at X714 l714 y714 z714 st714 hQ714
          subst l714 y714 z714
          obtain ⟨rfl, N714q, eq714⟩ := hQ714
          have N715 := Fr.app N710 N714q
          refine GoW.step (fun _ k => st714 _ (XS.astore X714.here hx rfl (hb hby at_97) rfl rfl (l' := #[vi p1, vi p2, vi p3, vi p4, vi ar, vi dp, vr hot, vr b113, vi got, vr uu67, vr yd, .unset, .unset]) rfl (XS.aload X714.here hx rfl (hb hby at_99) rfl rfl k))) ?_
          show GoW p e below s _ _ _ T714 (mkF m 101 #[vi p1, vi p2, vi p3, vi p4, vi ar, vi dp, vr hot, vr b113, vi got, vr uu67, vr yd, .unset, .unset] [(.ref uu67)])
          obtain ⟨cq716, kq716, q716a, q716b, q716c⟩ := isOf hZ149 eq714 P709_1
          obtain ⟨_, _, ⟨T716, L716, k716, n716⟩, -, X716, ⟨Lc716, hQ716, l716, y716, z716⟩, st716⟩ := X714.interfaceBack hx (xi := xm25) (y := xm24) hown149 (mvT hZ149 (tw236 hw)) (mvT hZ149 (tw237 hw)) (mvT hZ149 (tw238 hw)) (mvT hZ149 (tw239 hw)) (mvT hZ149 (tw240 hw)) (mvT hZ149 (tw241 hw)) (mvT hZ149 (tw242 hw)) (mvT hZ149 (tw202 hw)) (by decide) (backOf (W := 0) (rm_ArrayList_size_0 l Z a0 hw [] uu67 ci4 T709.heap n0 f712 P709_3) hZ149 (tw243 hw) (tw51 hw) (by decide) (by decide)) q716a q716b q716c (g := (mkF m 101 #[vi p1, vi p2, vi p3, vi p4, vi ar, vi dp, vr hot, vr b113, vi got, vr uu67, vr yd, .unset, .unset] [(.ref uu67)])) rfl (by rw [hml]; rfl) (Steps.refl _) (argsL := []) (rest := []) (lenOf pd_0 rfl) rfl (Nat.le_of_eq rfl) (hb hby at_101) (fun _ _ => ⟨rfl, eq714, (by decide : 9 + 0 ≤ _), (by decide : 43 + 0 ≤ _)⟩)
          dsimp only [Pt.U, Pt.locs, Pt.cells, Pt.slots] at X716 l716 y716 z716 st716 hQ716
          subst l716 y716 z716
          obtain ⟨rfl, N716q, eq716⟩ := hQ716
          have N717 := Fr.app N715 N716q
          refine GoW.step (fun _ k => st716.trans k) ?_
          show GoW p e below s _ _ _ T716 (mkF m 106 #[vi p1, vi p2, vi p3, vi p4, vi ar, vi dp, vr hot, vr b113, vi got, vr uu67, vr yd, .unset, .unset] [cv4])
          by_cases hj0 : p4 = ar
          · have hey : yy0 = yd := own_same1 pkyy0 pkyd hj0
            obtain rfl : got = ci1 := egot.trans (own_yes0 hD hj0 hl0)
            refine GoW.step (fun _ k => XS.istore X716.here hx rfl (hb hby at_106) rfl (l' := #[vi p1, vi p2, vi p3, vi p4, vi ar, vi dp, vr hot, vr b113, .val cv1, vr uu67, vr yd, .val cv4, .unset]) rfl (XS.aload X716.here hx rfl (hb hby at_108) rfl rfl (XS.iload X716.here hx rfl (hb hby at_110) rfl (XS.iconst X716.here hx rfl (hb hby at_112) (XS.aload X716.here hx rfl (hb hby at_113) rfl rfl k))))) ?_
            show GoW p e below s _ _ _ T716 (mkF m 115 #[vi p1, vi p2, vi p3, vi p4, vi ar, vi dp, vr hot, vr b113, .val cv1, vr uu67, vr yd, .val cv4, .unset] [(.ref yd), cv2, cv4, (.ref uu67)])
            obtain ⟨_, _, ⟨T718, L718, k718, n718⟩, -, X718, ⟨Lc718, hQ718, l718, y718, z718⟩, st718⟩ := Jvm.LawKit.callS X716 hx (y := xm39) hown149 (mvT hZ149 (tw244 hw)) (mvT hZ149 (tw245 hw)) (mvT hZ149 (tw246 hw)) (mvT hZ149 (tw247 hw)) (by decide) (backOf (W := 0) (rm_TripNightInTownPinLaw_at_0 l Z a0 hw [] uu67 ci4 ci2 yd ci4 uu68 uu69 ci4 ([(.ref xi), (.ref xo), (.ref yy0), (.ref yy1)]) yy0 T709.heap n0 f712 (by decide) P709_1 P709_3 P709_4 P709_7 rfl (by decide) (by decide) (by decide) hey) hZ149 (tw247 hw) (tw246 hw) (by decide) (by decide)) (g := (mkF m 115 #[vi p1, vi p2, vi p3, vi p4, vi ar, vi dp, vr hot, vr b113, .val cv1, vr uu67, vr yd, .val cv4, .unset] [(.ref yd), cv2, cv4, (.ref uu67)])) rfl (by rw [hml]; rfl) (argsL := [(.ref uu67), cv4, cv2, (.ref yd)]) (rest := []) (lenOf pd_24 rfl) rfl (Nat.le_of_eq rfl) (hb hby at_115) (fun _ _ => ⟨rfl, eq716, (by decide : 9 + 0 ≤ _), (by decide : 43 + 0 ≤ _)⟩)
            dsimp only [Pt.U, Pt.locs, Pt.cells, Pt.slots] at X718 l718 y718 z718 st718 hQ718
            subst l718 y718 z718
            obtain ⟨rfl, N718q, eq718⟩ := hQ718
            have N719 := Fr.app N717 N718q
            refine GoW.step (fun _ k => st718 _ (XS.ifYes X718.here hx rfl (pc0 := 118) (pc' := 160) rfl (hb hby at_118) rfl ((if0 _ _).trans (feq (by decide)).2) (by decide) (by decide) (XS.iconst X718.here hx rfl (hb hby at_160) (XS.goto X718.here hx rfl (pc0 := 161) (pc' := 165) rfl (hb hby at_161) (by decide) (by decide) (XS.istore X718.here hx rfl (hb hby at_165) rfl (l' := #[vi p1, vi p2, vi p3, vi p4, vi ar, vi dp, vr hot, vr b113, .val cv1, vr uu67, vr yd, .val cv4, .val cv1]) rfl (XS.iload X718.here hx rfl (hb hby at_167) rfl (XS.iload X718.here hx rfl (hb hby at_169) rfl (XS.icmpNo X718.here hx rfl (hb hby at_171) rfl (teq (by decide)).2 (XS.iconst X718.here hx rfl (hb hby at_174) (XS.goto X718.here hx rfl (pc0 := 175) (pc' := 179) rfl (hb hby at_175) (by decide) (by decide) k)))))))))) ?_
            show GoW p e below s _ _ _ T718 (mkF m 179 #[vi p1, vi p2, vi p3, vi p4, vi ar, vi dp, vr hot, vr b113, .val cv1, vr uu67, vr yd, .val cv4, .val cv1] [cv1])
            have f720 := (Nat.le_trans (Nat.le_refl _) K709.1)
            exact GoW.retN X718 hS149 hx hlk (t := .boolean) Bd.returns (by simp) (hb hby at_179) eq718 f720 ⟨rfl, N719⟩ (by decide) (by decide)
          · by_cases hj1 : p4 = (ar + ci1)
            · have hne0 : yy0 ≠ yd := own_inj hAll hkk har hd pkyy0 pkyd (fun q => hj0 q.symm)
              have hey : yy1 = yd := own_same1 pkyy1 pkyd hj1
              obtain rfl : got = ci1 := egot.trans (own_yes1 hD hj1 hl1)
              refine GoW.step (fun _ k => XS.istore X716.here hx rfl (hb hby at_106) rfl (l' := #[vi p1, vi p2, vi p3, vi p4, vi ar, vi dp, vr hot, vr b113, .val cv1, vr uu67, vr yd, .val cv4, .unset]) rfl (XS.aload X716.here hx rfl (hb hby at_108) rfl rfl (XS.iload X716.here hx rfl (hb hby at_110) rfl (XS.iconst X716.here hx rfl (hb hby at_112) (XS.aload X716.here hx rfl (hb hby at_113) rfl rfl k))))) ?_
              show GoW p e below s _ _ _ T716 (mkF m 115 #[vi p1, vi p2, vi p3, vi p4, vi ar, vi dp, vr hot, vr b113, .val cv1, vr uu67, vr yd, .val cv4, .unset] [(.ref yd), cv2, cv4, (.ref uu67)])
              obtain ⟨_, _, ⟨T721, L721, k721, n721⟩, -, X721, ⟨Lc721, hQ721, l721, y721, z721⟩, st721⟩ := Jvm.LawKit.callS X716 hx (y := xm39) hown149 (mvT hZ149 (tw244 hw)) (mvT hZ149 (tw245 hw)) (mvT hZ149 (tw246 hw)) (mvT hZ149 (tw247 hw)) (by decide) (backOf (W := 0) (rm_TripNightInTownPinLaw_at_1 l Z a0 hw [] uu67 ci4 ci2 yd ci4 uu68 uu69 ci4 ([(.ref xi), (.ref xo), (.ref yy0), (.ref yy1)]) yy0 T709.heap n0 f712 (by decide) P709_1 P709_3 P709_4 P709_7 rfl (by decide) (by decide) (by decide) hne0) hZ149 (tw247 hw) (tw246 hw) (by decide) (by decide)) (g := (mkF m 115 #[vi p1, vi p2, vi p3, vi p4, vi ar, vi dp, vr hot, vr b113, .val cv1, vr uu67, vr yd, .val cv4, .unset] [(.ref yd), cv2, cv4, (.ref uu67)])) rfl (by rw [hml]; rfl) (argsL := [(.ref uu67), cv4, cv2, (.ref yd)]) (rest := []) (lenOf pd_24 rfl) rfl (Nat.le_of_eq rfl) (hb hby at_115) (fun _ _ => ⟨rfl, eq716, (by decide : 9 + 0 ≤ _), (by decide : 43 + 0 ≤ _)⟩)
              dsimp only [Pt.U, Pt.locs, Pt.cells, Pt.slots] at X721 l721 y721 z721 st721 hQ721
              subst l721 y721 z721
              obtain ⟨rfl, N721q, eq721⟩ := hQ721
              have N722 := Fr.app N717 N721q
              refine GoW.step (fun _ k => st721 _ (XS.ifNo X721.here hx rfl (hb hby at_118) rfl ((if0 _ _).trans (teq (by decide)).2) (XS.aload X721.here hx rfl (hb hby at_121) rfl rfl (XS.iload X721.here hx rfl (hb hby at_123) rfl (XS.iconst X721.here hx rfl (hb hby at_125) (XS.aload X721.here hx rfl (hb hby at_126) rfl rfl k)))))) ?_
              show GoW p e below s _ _ _ T721 (mkF m 128 #[vi p1, vi p2, vi p3, vi p4, vi ar, vi dp, vr hot, vr b113, .val cv1, vr uu67, vr yd, .val cv4, .unset] [(.ref yd), cv3, cv4, (.ref uu67)])
              obtain ⟨_, _, ⟨T723, L723, k723, n723⟩, -, X723, ⟨Lc723, hQ723, l723, y723, z723⟩, st723⟩ := Jvm.LawKit.callS X721 hx (y := xm39) hown149 (mvT hZ149 (tw244 hw)) (mvT hZ149 (tw245 hw)) (mvT hZ149 (tw246 hw)) (mvT hZ149 (tw247 hw)) (by decide) (backOf (W := 0) (rm_TripNightInTownPinLaw_at_0 l Z a0 hw [] uu67 ci4 ci3 yd ci4 uu68 uu69 ci4 ([(.ref xi), (.ref xo), (.ref yy0), (.ref yy1)]) yy1 T709.heap n0 f712 (by decide) P709_1 P709_3 P709_4 P709_7 rfl (by decide) (by decide) (by decide) hey) hZ149 (tw247 hw) (tw246 hw) (by decide) (by decide)) (g := (mkF m 128 #[vi p1, vi p2, vi p3, vi p4, vi ar, vi dp, vr hot, vr b113, .val cv1, vr uu67, vr yd, .val cv4, .unset] [(.ref yd), cv3, cv4, (.ref uu67)])) rfl (by rw [hml]; rfl) (argsL := [(.ref uu67), cv4, cv3, (.ref yd)]) (rest := []) (lenOf pd_24 rfl) rfl (Nat.le_of_eq rfl) (hb hby at_128) (fun _ _ => ⟨rfl, eq721, (by decide : 9 + 0 ≤ _), (by decide : 43 + 0 ≤ _)⟩)
              dsimp only [Pt.U, Pt.locs, Pt.cells, Pt.slots] at X723 l723 y723 z723 st723 hQ723
              subst l723 y723 z723
              obtain ⟨rfl, N723q, eq723⟩ := hQ723
              have N724 := Fr.app N722 N723q
              refine GoW.step (fun _ k => st723 _ (XS.ifYes X723.here hx rfl (pc0 := 131) (pc' := 160) rfl (hb hby at_131) rfl ((if0 _ _).trans (feq (by decide)).2) (by decide) (by decide) (XS.iconst X723.here hx rfl (hb hby at_160) (XS.goto X723.here hx rfl (pc0 := 161) (pc' := 165) rfl (hb hby at_161) (by decide) (by decide) (XS.istore X723.here hx rfl (hb hby at_165) rfl (l' := #[vi p1, vi p2, vi p3, vi p4, vi ar, vi dp, vr hot, vr b113, .val cv1, vr uu67, vr yd, .val cv4, .val cv1]) rfl (XS.iload X723.here hx rfl (hb hby at_167) rfl (XS.iload X723.here hx rfl (hb hby at_169) rfl (XS.icmpNo X723.here hx rfl (hb hby at_171) rfl (teq (by decide)).2 (XS.iconst X723.here hx rfl (hb hby at_174) (XS.goto X723.here hx rfl (pc0 := 175) (pc' := 179) rfl (hb hby at_175) (by decide) (by decide) k)))))))))) ?_
              show GoW p e below s _ _ _ T723 (mkF m 179 #[vi p1, vi p2, vi p3, vi p4, vi ar, vi dp, vr hot, vr b113, .val cv1, vr uu67, vr yd, .val cv4, .val cv1] [cv1])
              have f725 := (Nat.le_trans (Nat.le_refl _) K709.1)
              exact GoW.retN X723 hS149 hx hlk (t := .boolean) Bd.returns (by simp) (hb hby at_179) eq723 f725 ⟨rfl, N724⟩ (by decide) (by decide)
            · have hne0 : yy0 ≠ yd := own_inj hAll hkk har hd pkyy0 pkyd (fun q => hj0 q.symm)
              have hne1 : yy1 ≠ yd := own_inj hAll hkk hI1 hd pkyy1 pkyd (fun q => hj1 q.symm)
              obtain rfl : got = ci0 := egot.trans (own_no2 hD hd hj0 hj1 hl2)
              refine GoW.step (fun _ k => XS.istore X716.here hx rfl (hb hby at_106) rfl (l' := #[vi p1, vi p2, vi p3, vi p4, vi ar, vi dp, vr hot, vr b113, .val cv0, vr uu67, vr yd, .val cv4, .unset]) rfl (XS.aload X716.here hx rfl (hb hby at_108) rfl rfl (XS.iload X716.here hx rfl (hb hby at_110) rfl (XS.iconst X716.here hx rfl (hb hby at_112) (XS.aload X716.here hx rfl (hb hby at_113) rfl rfl k))))) ?_
              show GoW p e below s _ _ _ T716 (mkF m 115 #[vi p1, vi p2, vi p3, vi p4, vi ar, vi dp, vr hot, vr b113, .val cv0, vr uu67, vr yd, .val cv4, .unset] [(.ref yd), cv2, cv4, (.ref uu67)])
              obtain ⟨_, _, ⟨T726, L726, k726, n726⟩, -, X726, ⟨Lc726, hQ726, l726, y726, z726⟩, st726⟩ := Jvm.LawKit.callS X716 hx (y := xm39) hown149 (mvT hZ149 (tw244 hw)) (mvT hZ149 (tw245 hw)) (mvT hZ149 (tw246 hw)) (mvT hZ149 (tw247 hw)) (by decide) (backOf (W := 0) (rm_TripNightInTownPinLaw_at_1 l Z a0 hw [] uu67 ci4 ci2 yd ci4 uu68 uu69 ci4 ([(.ref xi), (.ref xo), (.ref yy0), (.ref yy1)]) yy0 T709.heap n0 f712 (by decide) P709_1 P709_3 P709_4 P709_7 rfl (by decide) (by decide) (by decide) hne0) hZ149 (tw247 hw) (tw246 hw) (by decide) (by decide)) (g := (mkF m 115 #[vi p1, vi p2, vi p3, vi p4, vi ar, vi dp, vr hot, vr b113, .val cv0, vr uu67, vr yd, .val cv4, .unset] [(.ref yd), cv2, cv4, (.ref uu67)])) rfl (by rw [hml]; rfl) (argsL := [(.ref uu67), cv4, cv2, (.ref yd)]) (rest := []) (lenOf pd_24 rfl) rfl (Nat.le_of_eq rfl) (hb hby at_115) (fun _ _ => ⟨rfl, eq716, (by decide : 9 + 0 ≤ _), (by decide : 43 + 0 ≤ _)⟩)
              dsimp only [Pt.U, Pt.locs, Pt.cells, Pt.slots] at X726 l726 y726 z726 st726 hQ726
              subst l726 y726 z726
              obtain ⟨rfl, N726q, eq726⟩ := hQ726
              have N727 := Fr.app N717 N726q
              refine GoW.step (fun _ k => st726 _ (XS.ifNo X726.here hx rfl (hb hby at_118) rfl ((if0 _ _).trans (teq (by decide)).2) (XS.aload X726.here hx rfl (hb hby at_121) rfl rfl (XS.iload X726.here hx rfl (hb hby at_123) rfl (XS.iconst X726.here hx rfl (hb hby at_125) (XS.aload X726.here hx rfl (hb hby at_126) rfl rfl k)))))) ?_
              show GoW p e below s _ _ _ T726 (mkF m 128 #[vi p1, vi p2, vi p3, vi p4, vi ar, vi dp, vr hot, vr b113, .val cv0, vr uu67, vr yd, .val cv4, .unset] [(.ref yd), cv3, cv4, (.ref uu67)])
              obtain ⟨_, _, ⟨T728, L728, k728, n728⟩, -, X728, ⟨Lc728, hQ728, l728, y728, z728⟩, st728⟩ := Jvm.LawKit.callS X726 hx (y := xm39) hown149 (mvT hZ149 (tw244 hw)) (mvT hZ149 (tw245 hw)) (mvT hZ149 (tw246 hw)) (mvT hZ149 (tw247 hw)) (by decide) (backOf (W := 0) (rm_TripNightInTownPinLaw_at_1 l Z a0 hw [] uu67 ci4 ci3 yd ci4 uu68 uu69 ci4 ([(.ref xi), (.ref xo), (.ref yy0), (.ref yy1)]) yy1 T709.heap n0 f712 (by decide) P709_1 P709_3 P709_4 P709_7 rfl (by decide) (by decide) (by decide) hne1) hZ149 (tw247 hw) (tw246 hw) (by decide) (by decide)) (g := (mkF m 128 #[vi p1, vi p2, vi p3, vi p4, vi ar, vi dp, vr hot, vr b113, .val cv0, vr uu67, vr yd, .val cv4, .unset] [(.ref yd), cv3, cv4, (.ref uu67)])) rfl (by rw [hml]; rfl) (argsL := [(.ref uu67), cv4, cv3, (.ref yd)]) (rest := []) (lenOf pd_24 rfl) rfl (Nat.le_of_eq rfl) (hb hby at_128) (fun _ _ => ⟨rfl, eq726, (by decide : 9 + 0 ≤ _), (by decide : 43 + 0 ≤ _)⟩)
              dsimp only [Pt.U, Pt.locs, Pt.cells, Pt.slots] at X728 l728 y728 z728 st728 hQ728
              subst l728 y728 z728
              obtain ⟨rfl, N728q, eq728⟩ := hQ728
              have N729 := Fr.app N727 N728q
              refine GoW.step (fun _ k => st728 _ (XS.ifNo X728.here hx rfl (hb hby at_131) rfl ((if0 _ _).trans (teq (by decide)).2) (XS.aload X728.here hx rfl (hb hby at_134) rfl rfl (XS.iload X728.here hx rfl (hb hby at_136) rfl (XS.iconst X728.here hx rfl (hb hby at_138) (XS.aload X728.here hx rfl (hb hby at_139) rfl rfl k)))))) ?_
              show GoW p e below s _ _ _ T728 (mkF m 141 #[vi p1, vi p2, vi p3, vi p4, vi ar, vi dp, vr hot, vr b113, .val cv0, vr uu67, vr yd, .val cv4, .unset] [(.ref yd), cv4, cv4, (.ref uu67)])
              obtain ⟨_, _, ⟨T730, L730, k730, n730⟩, -, X730, ⟨Lc730, hQ730, l730, y730, z730⟩, st730⟩ := Jvm.LawKit.callS X728 hx (y := xm39) hown149 (mvT hZ149 (tw244 hw)) (mvT hZ149 (tw245 hw)) (mvT hZ149 (tw246 hw)) (mvT hZ149 (tw247 hw)) (by decide) (backOf (W := 0) (rm_TripNightInTownPinLaw_at_2 l Z a0 hw [] uu67 ci4 ci4 yd T709.heap n0 f712 (by decide)) hZ149 (tw247 hw) (tw246 hw) (by decide) (by decide)) (g := (mkF m 141 #[vi p1, vi p2, vi p3, vi p4, vi ar, vi dp, vr hot, vr b113, .val cv0, vr uu67, vr yd, .val cv4, .unset] [(.ref yd), cv4, cv4, (.ref uu67)])) rfl (by rw [hml]; rfl) (argsL := [(.ref uu67), cv4, cv4, (.ref yd)]) (rest := []) (lenOf pd_24 rfl) rfl (Nat.le_of_eq rfl) (hb hby at_141) (fun _ _ => ⟨rfl, eq728, (by decide : 9 + 0 ≤ _), (by decide : 43 + 0 ≤ _)⟩)
              dsimp only [Pt.U, Pt.locs, Pt.cells, Pt.slots] at X730 l730 y730 z730 st730 hQ730
              subst l730 y730 z730
              obtain ⟨rfl, N730q, eq730⟩ := hQ730
              have N731 := Fr.app N729 N730q
              refine GoW.step (fun _ k => st730 _ (XS.ifNo X730.here hx rfl (hb hby at_144) rfl ((if0 _ _).trans (teq (by decide)).2) (XS.aload X730.here hx rfl (hb hby at_147) rfl rfl (XS.iload X730.here hx rfl (hb hby at_149) rfl (XS.iconst X730.here hx rfl (hb hby at_151) (XS.aload X730.here hx rfl (hb hby at_152) rfl rfl k)))))) ?_
              show GoW p e below s _ _ _ T730 (mkF m 154 #[vi p1, vi p2, vi p3, vi p4, vi ar, vi dp, vr hot, vr b113, .val cv0, vr uu67, vr yd, .val cv4, .unset] [(.ref yd), cv5, cv4, (.ref uu67)])
              obtain ⟨_, _, ⟨T732, L732, k732, n732⟩, -, X732, ⟨Lc732, hQ732, l732, y732, z732⟩, st732⟩ := Jvm.LawKit.callS X730 hx (y := xm39) hown149 (mvT hZ149 (tw244 hw)) (mvT hZ149 (tw245 hw)) (mvT hZ149 (tw246 hw)) (mvT hZ149 (tw247 hw)) (by decide) (backOf (W := 0) (rm_TripNightInTownPinLaw_at_2 l Z a0 hw [] uu67 ci4 ci5 yd T709.heap n0 f712 (by decide)) hZ149 (tw247 hw) (tw246 hw) (by decide) (by decide)) (g := (mkF m 154 #[vi p1, vi p2, vi p3, vi p4, vi ar, vi dp, vr hot, vr b113, .val cv0, vr uu67, vr yd, .val cv4, .unset] [(.ref yd), cv5, cv4, (.ref uu67)])) rfl (by rw [hml]; rfl) (argsL := [(.ref uu67), cv4, cv5, (.ref yd)]) (rest := []) (lenOf pd_24 rfl) rfl (Nat.le_of_eq rfl) (hb hby at_154) (fun _ _ => ⟨rfl, eq730, (by decide : 9 + 0 ≤ _), (by decide : 43 + 0 ≤ _)⟩)
              dsimp only [Pt.U, Pt.locs, Pt.cells, Pt.slots] at X732 l732 y732 z732 st732 hQ732
              subst l732 y732 z732
              obtain ⟨rfl, N732q, eq732⟩ := hQ732
              have N733 := Fr.app N731 N732q
              refine GoW.step (fun _ k => st732 _ (XS.ifYes X732.here hx rfl (pc0 := 157) (pc' := 164) rfl (hb hby at_157) rfl ((if0 _ _).trans (teq (by decide)).1) (by decide) (by decide) (XS.iconst X732.here hx rfl (hb hby at_164) (XS.istore X732.here hx rfl (hb hby at_165) rfl (l' := #[vi p1, vi p2, vi p3, vi p4, vi ar, vi dp, vr hot, vr b113, .val cv0, vr uu67, vr yd, .val cv4, .val cv0]) rfl (XS.iload X732.here hx rfl (hb hby at_167) rfl (XS.iload X732.here hx rfl (hb hby at_169) rfl (XS.icmpNo X732.here hx rfl (hb hby at_171) rfl (teq (by decide)).2 (XS.iconst X732.here hx rfl (hb hby at_174) (XS.goto X732.here hx rfl (pc0 := 175) (pc' := 179) rfl (hb hby at_175) (by decide) (by decide) k))))))))) ?_
              show GoW p e below s _ _ _ T732 (mkF m 179 #[vi p1, vi p2, vi p3, vi p4, vi ar, vi dp, vr hot, vr b113, .val cv0, vr uu67, vr yd, .val cv4, .val cv0] [cv1])
              have f734 := (Nat.le_trans (Nat.le_refl _) K709.1)
              exact GoW.retN X732 hS149 hx hlk (t := .boolean) Bd.returns (by simp) (hb hby at_179) eq732 f734 ⟨rfl, N733⟩ (by decide) (by decide)
        · obtain ⟨hl0, hl1, hl2, hI1, hI2, hl3⟩ := hn
          obtain ⟨yy0, pkyy0, Zyy0⟩ := own_rm hAll hkk har
          have f735 := Zyy0.ext f156.2
          obtain ⟨yy1, pkyy1, Zyy1⟩ := own_rm hAll hkk hI1
          have f736 := Zyy1.ext f156.2
          obtain ⟨yy2, pkyy2, Zyy2⟩ := own_rm hAll hkk hI2
          have f737 := Zyy2.ext f156.2
          refine GoW.step (fun _ k => XS.aload X153.here hx rfl (hb hby at_84) rfl rfl k) ?_
          show GoW p e below s _ _ _ T153 (mkF m 86 #[vi p1, vi p2, vi p3, vi p4, vi ar, vi dp, vr hot, vr b113, vi got, .unset, .unset, .unset, .unset] [(.ref b113)])
          obtain ⟨cq942, kq942, q942a, q942b, q942c⟩ := isOf hZ149 eq153 f154
          obtain ⟨_, _, ⟨T942, L942, k942, n942⟩, -, X942, ⟨Lc942, hQ942, l942, y942, z942⟩, st942⟩ := X153.virtualBack hx (y := xm23) (z := xm23) hown149 (mvT hZ149 (tw44 hw)) (mvT hZ149 (tw45 hw)) (notFace_of_selects (args := #[]) (mvT hZ149 (tw47 hw))) (mvT hZ149 (tw47 hw)) (mvT hZ149 (tw46 hw)) (by decide) (backOf (W := 0) (rm_Trip_goods_2 l Z a0 hw [] b113 ar els xi dp xo m12 mal moa em hot kk yy0 hg yy1 yy2 li al ea kea lo lg lc T149.heap n0 f152 P149_0 pkxi har f156 Z_S_INFLIGHT Z_E_li Z_F_first_li Z_F_ordinal_li Z_S_ALL Z_E_al Z_F_elements_al Z_A_ea f157 P149_1 pkxo hO Z_S_OUTFLIGHT Z_E_lo Z_F_first_lo Z_F_ordinal_lo f158 M_m12 M_mal M_moa Z_S_EMPTY Z_E_em ne_xo (Mir.ne M_m12 M_mal (by decide)) hl0 P149_2 pkyy0 hKk Z_S_GOOD Z_S_GOOD_HOTEL Z_E_lg Z_F_first_lg Z_F_ordinal_lg Z_S_CHEAP_HOTEL Z_E_lc Z_F_first_lc Z_F_ordinal_lc f735 hl1 pkyy1 hI1 f736 hl2 pkyy2 hI2 f737 hl3) hZ149 (tw48 hw) (tw6 hw) (by decide) (by decide)) q942a q942c (g := (mkF m 86 #[vi p1, vi p2, vi p3, vi p4, vi ar, vi dp, vr hot, vr b113, vi got, .unset, .unset, .unset, .unset] [(.ref b113)])) rfl (by rw [hml]; rfl) (Steps.refl _) (argsL := []) (rest := []) (lenOf pd_22 rfl) rfl (Nat.le_of_eq rfl) (hb hby at_86) (fun _ _ => ⟨rfl, eq153, (by decide : 3 + 7 ≤ _), (by decide : 27 + 22 ≤ _)⟩)
          dsimp only [Pt.U, Pt.locs, Pt.cells, Pt.slots] at X942 l942 y942 z942 st942 hQ942
          subst l942 y942 z942
          obtain ⟨uu70, uu71, uu72, rfl, N942q, K942, P942_0, P942_1, P942_2, P942_3, P942_4, P942_5, P942_6, P942_7, P942_8, P942_9⟩ := hQ942
          have N943 := Fr.app N155 N942q
          refine GoW.step (fun _ k => st942.trans (XS.astore X942.here hx rfl (hb hby at_89) rfl rfl (l' := #[vi p1, vi p2, vi p3, vi p4, vi ar, vi dp, vr hot, vr b113, vi got, vr uu70, .unset, .unset, .unset]) rfl (XS.aload X942.here hx rfl (hb hby at_91) rfl rfl (XS.iloadN X942.here hx rfl (hb hby at_93) rfl k)))) ?_
          show GoW p e below s _ _ _ T942 (mkF m 94 #[vi p1, vi p2, vi p3, vi p4, vi ar, vi dp, vr hot, vr b113, vi got, vr uu70, .unset, .unset, .unset] [(.int p4), (.ref hot)])
          have f944 := (f156.keep K942 all0)
          have f945 := (Nat.le_trans f152 K942.1)
          have f946 := (f159.keep K942)
          obtain ⟨_, _, ⟨T947, L947, k947, n947⟩, -, X947, ⟨Lc947, hQ947, l947, y947, z947⟩, st947⟩ := Jvm.LawKit.callS X942 hx (y := xm30) hown149 (mvT hZ149 (tw235 hw)) (mvT hZ149 (tw189 hw)) (mvT hZ149 (tw54 hw)) (mvT hZ149 (tw190 hw)) (by decide) (backOf (W := 0) (rm_room l Z a0 hw [] hot kk p4 yd hg lg lc al ea kea els T942.heap n0 f945 f944 Z_S_GOOD Z_S_GOOD_HOTEL Z_E_lg Z_F_first_lg Z_F_ordinal_lg Z_S_CHEAP_HOTEL Z_E_lc Z_F_first_lc Z_F_ordinal_lc Z_S_ALL Z_E_al Z_F_elements_al Z_A_ea f946 hKk hd pkyd) hZ149 (tw190 hw) (tw54 hw) (by decide) (by decide)) (g := (mkF m 94 #[vi p1, vi p2, vi p3, vi p4, vi ar, vi dp, vr hot, vr b113, vi got, vr uu70, .unset, .unset, .unset] [(.int p4), (.ref hot)])) rfl (by rw [hml]; rfl) (argsL := [(.ref hot), (.int p4)]) (rest := []) (lenOf pd_16 rfl) rfl (Nat.le_of_eq rfl) (hb hby at_94) (fun _ _ => ⟨rfl, rfl, (by decide : 10 + 0 ≤ _), (by decide : 49 + 0 ≤ _)⟩)
          dsimp only [Pt.U, Pt.locs, Pt.cells, Pt.slots] at X947 l947 y947 z947 st947 hQ947
          subst l947 y947 z947
          obtain ⟨rfl, N947q, eq947⟩ := hQ947
          have N948 := Fr.app N943 N947q
          refine GoW.step (fun _ k => st947 _ (XS.astore X947.here hx rfl (hb hby at_97) rfl rfl (l' := #[vi p1, vi p2, vi p3, vi p4, vi ar, vi dp, vr hot, vr b113, vi got, vr uu70, vr yd, .unset, .unset]) rfl (XS.aload X947.here hx rfl (hb hby at_99) rfl rfl k))) ?_
          show GoW p e below s _ _ _ T947 (mkF m 101 #[vi p1, vi p2, vi p3, vi p4, vi ar, vi dp, vr hot, vr b113, vi got, vr uu70, vr yd, .unset, .unset] [(.ref uu70)])
          obtain ⟨cq949, kq949, q949a, q949b, q949c⟩ := isOf hZ149 eq947 P942_1
          obtain ⟨_, _, ⟨T949, L949, k949, n949⟩, -, X949, ⟨Lc949, hQ949, l949, y949, z949⟩, st949⟩ := X947.interfaceBack hx (xi := xm25) (y := xm24) hown149 (mvT hZ149 (tw236 hw)) (mvT hZ149 (tw237 hw)) (mvT hZ149 (tw238 hw)) (mvT hZ149 (tw239 hw)) (mvT hZ149 (tw240 hw)) (mvT hZ149 (tw241 hw)) (mvT hZ149 (tw242 hw)) (mvT hZ149 (tw202 hw)) (by decide) (backOf (W := 0) (rm_ArrayList_size_0 l Z a0 hw [] uu70 ci5 T942.heap n0 f945 P942_3) hZ149 (tw243 hw) (tw51 hw) (by decide) (by decide)) q949a q949b q949c (g := (mkF m 101 #[vi p1, vi p2, vi p3, vi p4, vi ar, vi dp, vr hot, vr b113, vi got, vr uu70, vr yd, .unset, .unset] [(.ref uu70)])) rfl (by rw [hml]; rfl) (Steps.refl _) (argsL := []) (rest := []) (lenOf pd_0 rfl) rfl (Nat.le_of_eq rfl) (hb hby at_101) (fun _ _ => ⟨rfl, eq947, (by decide : 10 + 0 ≤ _), (by decide : 49 + 0 ≤ _)⟩)
          dsimp only [Pt.U, Pt.locs, Pt.cells, Pt.slots] at X949 l949 y949 z949 st949 hQ949
          subst l949 y949 z949
          obtain ⟨rfl, N949q, eq949⟩ := hQ949
          have N950 := Fr.app N948 N949q
          refine GoW.step (fun _ k => st949.trans k) ?_
          show GoW p e below s _ _ _ T949 (mkF m 106 #[vi p1, vi p2, vi p3, vi p4, vi ar, vi dp, vr hot, vr b113, vi got, vr uu70, vr yd, .unset, .unset] [cv5])
          by_cases hj0 : p4 = ar
          · have hey : yy0 = yd := own_same1 pkyy0 pkyd hj0
            obtain rfl : got = ci1 := egot.trans (own_yes0 hD hj0 hl0)
            refine GoW.step (fun _ k => XS.istore X949.here hx rfl (hb hby at_106) rfl (l' := #[vi p1, vi p2, vi p3, vi p4, vi ar, vi dp, vr hot, vr b113, .val cv1, vr uu70, vr yd, .val cv5, .unset]) rfl (XS.aload X949.here hx rfl (hb hby at_108) rfl rfl (XS.iload X949.here hx rfl (hb hby at_110) rfl (XS.iconst X949.here hx rfl (hb hby at_112) (XS.aload X949.here hx rfl (hb hby at_113) rfl rfl k))))) ?_
            show GoW p e below s _ _ _ T949 (mkF m 115 #[vi p1, vi p2, vi p3, vi p4, vi ar, vi dp, vr hot, vr b113, .val cv1, vr uu70, vr yd, .val cv5, .unset] [(.ref yd), cv2, cv5, (.ref uu70)])
            obtain ⟨_, _, ⟨T951, L951, k951, n951⟩, -, X951, ⟨Lc951, hQ951, l951, y951, z951⟩, st951⟩ := Jvm.LawKit.callS X949 hx (y := xm39) hown149 (mvT hZ149 (tw244 hw)) (mvT hZ149 (tw245 hw)) (mvT hZ149 (tw246 hw)) (mvT hZ149 (tw247 hw)) (by decide) (backOf (W := 0) (rm_TripNightInTownPinLaw_at_0 l Z a0 hw [] uu70 ci5 ci2 yd ci5 uu71 uu72 ci6 ([(.ref xi), (.ref xo), (.ref yy0), (.ref yy1), (.ref yy2), .null]) yy0 T942.heap n0 f945 (by decide) P942_1 P942_3 P942_4 P942_7 rfl (by decide) (by decide) (by decide) hey) hZ149 (tw247 hw) (tw246 hw) (by decide) (by decide)) (g := (mkF m 115 #[vi p1, vi p2, vi p3, vi p4, vi ar, vi dp, vr hot, vr b113, .val cv1, vr uu70, vr yd, .val cv5, .unset] [(.ref yd), cv2, cv5, (.ref uu70)])) rfl (by rw [hml]; rfl) (argsL := [(.ref uu70), cv5, cv2, (.ref yd)]) (rest := []) (lenOf pd_24 rfl) rfl (Nat.le_of_eq rfl) (hb hby at_115) (fun _ _ => ⟨rfl, eq949, (by decide : 10 + 0 ≤ _), (by decide : 49 + 0 ≤ _)⟩)
            dsimp only [Pt.U, Pt.locs, Pt.cells, Pt.slots] at X951 l951 y951 z951 st951 hQ951
            subst l951 y951 z951
            obtain ⟨rfl, N951q, eq951⟩ := hQ951
            have N952 := Fr.app N950 N951q
            refine GoW.step (fun _ k => st951 _ (XS.ifYes X951.here hx rfl (pc0 := 118) (pc' := 160) rfl (hb hby at_118) rfl ((if0 _ _).trans (feq (by decide)).2) (by decide) (by decide) (XS.iconst X951.here hx rfl (hb hby at_160) (XS.goto X951.here hx rfl (pc0 := 161) (pc' := 165) rfl (hb hby at_161) (by decide) (by decide) (XS.istore X951.here hx rfl (hb hby at_165) rfl (l' := #[vi p1, vi p2, vi p3, vi p4, vi ar, vi dp, vr hot, vr b113, .val cv1, vr uu70, vr yd, .val cv5, .val cv1]) rfl (XS.iload X951.here hx rfl (hb hby at_167) rfl (XS.iload X951.here hx rfl (hb hby at_169) rfl (XS.icmpNo X951.here hx rfl (hb hby at_171) rfl (teq (by decide)).2 (XS.iconst X951.here hx rfl (hb hby at_174) (XS.goto X951.here hx rfl (pc0 := 175) (pc' := 179) rfl (hb hby at_175) (by decide) (by decide) k)))))))))) ?_
            show GoW p e below s _ _ _ T951 (mkF m 179 #[vi p1, vi p2, vi p3, vi p4, vi ar, vi dp, vr hot, vr b113, .val cv1, vr uu70, vr yd, .val cv5, .val cv1] [cv1])
            have f953 := (Nat.le_trans (Nat.le_refl _) K942.1)
            exact GoW.retN X951 hS149 hx hlk (t := .boolean) Bd.returns (by simp) (hb hby at_179) eq951 f953 ⟨rfl, N952⟩ (by decide) (by decide)
          · by_cases hj1 : p4 = (ar + ci1)
            · have hne0 : yy0 ≠ yd := own_inj hAll hkk har hd pkyy0 pkyd (fun q => hj0 q.symm)
              have hey : yy1 = yd := own_same1 pkyy1 pkyd hj1
              obtain rfl : got = ci1 := egot.trans (own_yes1 hD hj1 hl1)
              refine GoW.step (fun _ k => XS.istore X949.here hx rfl (hb hby at_106) rfl (l' := #[vi p1, vi p2, vi p3, vi p4, vi ar, vi dp, vr hot, vr b113, .val cv1, vr uu70, vr yd, .val cv5, .unset]) rfl (XS.aload X949.here hx rfl (hb hby at_108) rfl rfl (XS.iload X949.here hx rfl (hb hby at_110) rfl (XS.iconst X949.here hx rfl (hb hby at_112) (XS.aload X949.here hx rfl (hb hby at_113) rfl rfl k))))) ?_
              show GoW p e below s _ _ _ T949 (mkF m 115 #[vi p1, vi p2, vi p3, vi p4, vi ar, vi dp, vr hot, vr b113, .val cv1, vr uu70, vr yd, .val cv5, .unset] [(.ref yd), cv2, cv5, (.ref uu70)])
              obtain ⟨_, _, ⟨T954, L954, k954, n954⟩, -, X954, ⟨Lc954, hQ954, l954, y954, z954⟩, st954⟩ := Jvm.LawKit.callS X949 hx (y := xm39) hown149 (mvT hZ149 (tw244 hw)) (mvT hZ149 (tw245 hw)) (mvT hZ149 (tw246 hw)) (mvT hZ149 (tw247 hw)) (by decide) (backOf (W := 0) (rm_TripNightInTownPinLaw_at_1 l Z a0 hw [] uu70 ci5 ci2 yd ci5 uu71 uu72 ci6 ([(.ref xi), (.ref xo), (.ref yy0), (.ref yy1), (.ref yy2), .null]) yy0 T942.heap n0 f945 (by decide) P942_1 P942_3 P942_4 P942_7 rfl (by decide) (by decide) (by decide) hne0) hZ149 (tw247 hw) (tw246 hw) (by decide) (by decide)) (g := (mkF m 115 #[vi p1, vi p2, vi p3, vi p4, vi ar, vi dp, vr hot, vr b113, .val cv1, vr uu70, vr yd, .val cv5, .unset] [(.ref yd), cv2, cv5, (.ref uu70)])) rfl (by rw [hml]; rfl) (argsL := [(.ref uu70), cv5, cv2, (.ref yd)]) (rest := []) (lenOf pd_24 rfl) rfl (Nat.le_of_eq rfl) (hb hby at_115) (fun _ _ => ⟨rfl, eq949, (by decide : 10 + 0 ≤ _), (by decide : 49 + 0 ≤ _)⟩)
              dsimp only [Pt.U, Pt.locs, Pt.cells, Pt.slots] at X954 l954 y954 z954 st954 hQ954
              subst l954 y954 z954
              obtain ⟨rfl, N954q, eq954⟩ := hQ954
              have N955 := Fr.app N950 N954q
              refine GoW.step (fun _ k => st954 _ (XS.ifNo X954.here hx rfl (hb hby at_118) rfl ((if0 _ _).trans (teq (by decide)).2) (XS.aload X954.here hx rfl (hb hby at_121) rfl rfl (XS.iload X954.here hx rfl (hb hby at_123) rfl (XS.iconst X954.here hx rfl (hb hby at_125) (XS.aload X954.here hx rfl (hb hby at_126) rfl rfl k)))))) ?_
              show GoW p e below s _ _ _ T954 (mkF m 128 #[vi p1, vi p2, vi p3, vi p4, vi ar, vi dp, vr hot, vr b113, .val cv1, vr uu70, vr yd, .val cv5, .unset] [(.ref yd), cv3, cv5, (.ref uu70)])
              obtain ⟨_, _, ⟨T956, L956, k956, n956⟩, -, X956, ⟨Lc956, hQ956, l956, y956, z956⟩, st956⟩ := Jvm.LawKit.callS X954 hx (y := xm39) hown149 (mvT hZ149 (tw244 hw)) (mvT hZ149 (tw245 hw)) (mvT hZ149 (tw246 hw)) (mvT hZ149 (tw247 hw)) (by decide) (backOf (W := 0) (rm_TripNightInTownPinLaw_at_0 l Z a0 hw [] uu70 ci5 ci3 yd ci5 uu71 uu72 ci6 ([(.ref xi), (.ref xo), (.ref yy0), (.ref yy1), (.ref yy2), .null]) yy1 T942.heap n0 f945 (by decide) P942_1 P942_3 P942_4 P942_7 rfl (by decide) (by decide) (by decide) hey) hZ149 (tw247 hw) (tw246 hw) (by decide) (by decide)) (g := (mkF m 128 #[vi p1, vi p2, vi p3, vi p4, vi ar, vi dp, vr hot, vr b113, .val cv1, vr uu70, vr yd, .val cv5, .unset] [(.ref yd), cv3, cv5, (.ref uu70)])) rfl (by rw [hml]; rfl) (argsL := [(.ref uu70), cv5, cv3, (.ref yd)]) (rest := []) (lenOf pd_24 rfl) rfl (Nat.le_of_eq rfl) (hb hby at_128) (fun _ _ => ⟨rfl, eq954, (by decide : 10 + 0 ≤ _), (by decide : 49 + 0 ≤ _)⟩)
              dsimp only [Pt.U, Pt.locs, Pt.cells, Pt.slots] at X956 l956 y956 z956 st956 hQ956
              subst l956 y956 z956
              obtain ⟨rfl, N956q, eq956⟩ := hQ956
              have N957 := Fr.app N955 N956q
              refine GoW.step (fun _ k => st956 _ (XS.ifYes X956.here hx rfl (pc0 := 131) (pc' := 160) rfl (hb hby at_131) rfl ((if0 _ _).trans (feq (by decide)).2) (by decide) (by decide) (XS.iconst X956.here hx rfl (hb hby at_160) (XS.goto X956.here hx rfl (pc0 := 161) (pc' := 165) rfl (hb hby at_161) (by decide) (by decide) (XS.istore X956.here hx rfl (hb hby at_165) rfl (l' := #[vi p1, vi p2, vi p3, vi p4, vi ar, vi dp, vr hot, vr b113, .val cv1, vr uu70, vr yd, .val cv5, .val cv1]) rfl (XS.iload X956.here hx rfl (hb hby at_167) rfl (XS.iload X956.here hx rfl (hb hby at_169) rfl (XS.icmpNo X956.here hx rfl (hb hby at_171) rfl (teq (by decide)).2 (XS.iconst X956.here hx rfl (hb hby at_174) (XS.goto X956.here hx rfl (pc0 := 175) (pc' := 179) rfl (hb hby at_175) (by decide) (by decide) k)))))))))) ?_
              show GoW p e below s _ _ _ T956 (mkF m 179 #[vi p1, vi p2, vi p3, vi p4, vi ar, vi dp, vr hot, vr b113, .val cv1, vr uu70, vr yd, .val cv5, .val cv1] [cv1])
              have f958 := (Nat.le_trans (Nat.le_refl _) K942.1)
              exact GoW.retN X956 hS149 hx hlk (t := .boolean) Bd.returns (by simp) (hb hby at_179) eq956 f958 ⟨rfl, N957⟩ (by decide) (by decide)
            · by_cases hj2 : p4 = ((ar + ci1) + ci1)
              · have hne0 : yy0 ≠ yd := own_inj hAll hkk har hd pkyy0 pkyd (fun q => hj0 q.symm)
                have hne1 : yy1 ≠ yd := own_inj hAll hkk hI1 hd pkyy1 pkyd (fun q => hj1 q.symm)
                have hey : yy2 = yd := own_same1 pkyy2 pkyd hj2
                obtain rfl : got = ci1 := egot.trans (own_yes2 hD hj2 hl2)
                refine GoW.step (fun _ k => XS.istore X949.here hx rfl (hb hby at_106) rfl (l' := #[vi p1, vi p2, vi p3, vi p4, vi ar, vi dp, vr hot, vr b113, .val cv1, vr uu70, vr yd, .val cv5, .unset]) rfl (XS.aload X949.here hx rfl (hb hby at_108) rfl rfl (XS.iload X949.here hx rfl (hb hby at_110) rfl (XS.iconst X949.here hx rfl (hb hby at_112) (XS.aload X949.here hx rfl (hb hby at_113) rfl rfl k))))) ?_
                show GoW p e below s _ _ _ T949 (mkF m 115 #[vi p1, vi p2, vi p3, vi p4, vi ar, vi dp, vr hot, vr b113, .val cv1, vr uu70, vr yd, .val cv5, .unset] [(.ref yd), cv2, cv5, (.ref uu70)])
                obtain ⟨_, _, ⟨T959, L959, k959, n959⟩, -, X959, ⟨Lc959, hQ959, l959, y959, z959⟩, st959⟩ := Jvm.LawKit.callS X949 hx (y := xm39) hown149 (mvT hZ149 (tw244 hw)) (mvT hZ149 (tw245 hw)) (mvT hZ149 (tw246 hw)) (mvT hZ149 (tw247 hw)) (by decide) (backOf (W := 0) (rm_TripNightInTownPinLaw_at_1 l Z a0 hw [] uu70 ci5 ci2 yd ci5 uu71 uu72 ci6 ([(.ref xi), (.ref xo), (.ref yy0), (.ref yy1), (.ref yy2), .null]) yy0 T942.heap n0 f945 (by decide) P942_1 P942_3 P942_4 P942_7 rfl (by decide) (by decide) (by decide) hne0) hZ149 (tw247 hw) (tw246 hw) (by decide) (by decide)) (g := (mkF m 115 #[vi p1, vi p2, vi p3, vi p4, vi ar, vi dp, vr hot, vr b113, .val cv1, vr uu70, vr yd, .val cv5, .unset] [(.ref yd), cv2, cv5, (.ref uu70)])) rfl (by rw [hml]; rfl) (argsL := [(.ref uu70), cv5, cv2, (.ref yd)]) (rest := []) (lenOf pd_24 rfl) rfl (Nat.le_of_eq rfl) (hb hby at_115) (fun _ _ => ⟨rfl, eq949, (by decide : 10 + 0 ≤ _), (by decide : 49 + 0 ≤ _)⟩)
                dsimp only [Pt.U, Pt.locs, Pt.cells, Pt.slots] at X959 l959 y959 z959 st959 hQ959
                subst l959 y959 z959
                obtain ⟨rfl, N959q, eq959⟩ := hQ959
                have N960 := Fr.app N950 N959q
                refine GoW.step (fun _ k => st959 _ (XS.ifNo X959.here hx rfl (hb hby at_118) rfl ((if0 _ _).trans (teq (by decide)).2) (XS.aload X959.here hx rfl (hb hby at_121) rfl rfl (XS.iload X959.here hx rfl (hb hby at_123) rfl (XS.iconst X959.here hx rfl (hb hby at_125) (XS.aload X959.here hx rfl (hb hby at_126) rfl rfl k)))))) ?_
                show GoW p e below s _ _ _ T959 (mkF m 128 #[vi p1, vi p2, vi p3, vi p4, vi ar, vi dp, vr hot, vr b113, .val cv1, vr uu70, vr yd, .val cv5, .unset] [(.ref yd), cv3, cv5, (.ref uu70)])
                obtain ⟨_, _, ⟨T961, L961, k961, n961⟩, -, X961, ⟨Lc961, hQ961, l961, y961, z961⟩, st961⟩ := Jvm.LawKit.callS X959 hx (y := xm39) hown149 (mvT hZ149 (tw244 hw)) (mvT hZ149 (tw245 hw)) (mvT hZ149 (tw246 hw)) (mvT hZ149 (tw247 hw)) (by decide) (backOf (W := 0) (rm_TripNightInTownPinLaw_at_1 l Z a0 hw [] uu70 ci5 ci3 yd ci5 uu71 uu72 ci6 ([(.ref xi), (.ref xo), (.ref yy0), (.ref yy1), (.ref yy2), .null]) yy1 T942.heap n0 f945 (by decide) P942_1 P942_3 P942_4 P942_7 rfl (by decide) (by decide) (by decide) hne1) hZ149 (tw247 hw) (tw246 hw) (by decide) (by decide)) (g := (mkF m 128 #[vi p1, vi p2, vi p3, vi p4, vi ar, vi dp, vr hot, vr b113, .val cv1, vr uu70, vr yd, .val cv5, .unset] [(.ref yd), cv3, cv5, (.ref uu70)])) rfl (by rw [hml]; rfl) (argsL := [(.ref uu70), cv5, cv3, (.ref yd)]) (rest := []) (lenOf pd_24 rfl) rfl (Nat.le_of_eq rfl) (hb hby at_128) (fun _ _ => ⟨rfl, eq959, (by decide : 10 + 0 ≤ _), (by decide : 49 + 0 ≤ _)⟩)
                dsimp only [Pt.U, Pt.locs, Pt.cells, Pt.slots] at X961 l961 y961 z961 st961 hQ961
                subst l961 y961 z961
                obtain ⟨rfl, N961q, eq961⟩ := hQ961
                have N962 := Fr.app N960 N961q
                refine GoW.step (fun _ k => st961 _ (XS.ifNo X961.here hx rfl (hb hby at_131) rfl ((if0 _ _).trans (teq (by decide)).2) (XS.aload X961.here hx rfl (hb hby at_134) rfl rfl (XS.iload X961.here hx rfl (hb hby at_136) rfl (XS.iconst X961.here hx rfl (hb hby at_138) (XS.aload X961.here hx rfl (hb hby at_139) rfl rfl k)))))) ?_
                show GoW p e below s _ _ _ T961 (mkF m 141 #[vi p1, vi p2, vi p3, vi p4, vi ar, vi dp, vr hot, vr b113, .val cv1, vr uu70, vr yd, .val cv5, .unset] [(.ref yd), cv4, cv5, (.ref uu70)])
                obtain ⟨_, _, ⟨T963, L963, k963, n963⟩, -, X963, ⟨Lc963, hQ963, l963, y963, z963⟩, st963⟩ := Jvm.LawKit.callS X961 hx (y := xm39) hown149 (mvT hZ149 (tw244 hw)) (mvT hZ149 (tw245 hw)) (mvT hZ149 (tw246 hw)) (mvT hZ149 (tw247 hw)) (by decide) (backOf (W := 0) (rm_TripNightInTownPinLaw_at_0 l Z a0 hw [] uu70 ci5 ci4 yd ci5 uu71 uu72 ci6 ([(.ref xi), (.ref xo), (.ref yy0), (.ref yy1), (.ref yy2), .null]) yy2 T942.heap n0 f945 (by decide) P942_1 P942_3 P942_4 P942_7 rfl (by decide) (by decide) (by decide) hey) hZ149 (tw247 hw) (tw246 hw) (by decide) (by decide)) (g := (mkF m 141 #[vi p1, vi p2, vi p3, vi p4, vi ar, vi dp, vr hot, vr b113, .val cv1, vr uu70, vr yd, .val cv5, .unset] [(.ref yd), cv4, cv5, (.ref uu70)])) rfl (by rw [hml]; rfl) (argsL := [(.ref uu70), cv5, cv4, (.ref yd)]) (rest := []) (lenOf pd_24 rfl) rfl (Nat.le_of_eq rfl) (hb hby at_141) (fun _ _ => ⟨rfl, eq961, (by decide : 10 + 0 ≤ _), (by decide : 49 + 0 ≤ _)⟩)
                dsimp only [Pt.U, Pt.locs, Pt.cells, Pt.slots] at X963 l963 y963 z963 st963 hQ963
                subst l963 y963 z963
                obtain ⟨rfl, N963q, eq963⟩ := hQ963
                have N964 := Fr.app N962 N963q
                refine GoW.step (fun _ k => st963 _ (XS.ifYes X963.here hx rfl (pc0 := 144) (pc' := 160) rfl (hb hby at_144) rfl ((if0 _ _).trans (feq (by decide)).2) (by decide) (by decide) (XS.iconst X963.here hx rfl (hb hby at_160) (XS.goto X963.here hx rfl (pc0 := 161) (pc' := 165) rfl (hb hby at_161) (by decide) (by decide) (XS.istore X963.here hx rfl (hb hby at_165) rfl (l' := #[vi p1, vi p2, vi p3, vi p4, vi ar, vi dp, vr hot, vr b113, .val cv1, vr uu70, vr yd, .val cv5, .val cv1]) rfl (XS.iload X963.here hx rfl (hb hby at_167) rfl (XS.iload X963.here hx rfl (hb hby at_169) rfl (XS.icmpNo X963.here hx rfl (hb hby at_171) rfl (teq (by decide)).2 (XS.iconst X963.here hx rfl (hb hby at_174) (XS.goto X963.here hx rfl (pc0 := 175) (pc' := 179) rfl (hb hby at_175) (by decide) (by decide) k)))))))))) ?_
                show GoW p e below s _ _ _ T963 (mkF m 179 #[vi p1, vi p2, vi p3, vi p4, vi ar, vi dp, vr hot, vr b113, .val cv1, vr uu70, vr yd, .val cv5, .val cv1] [cv1])
                have f965 := (Nat.le_trans (Nat.le_refl _) K942.1)
                exact GoW.retN X963 hS149 hx hlk (t := .boolean) Bd.returns (by simp) (hb hby at_179) eq963 f965 ⟨rfl, N964⟩ (by decide) (by decide)
              · have hne0 : yy0 ≠ yd := own_inj hAll hkk har hd pkyy0 pkyd (fun q => hj0 q.symm)
                have hne1 : yy1 ≠ yd := own_inj hAll hkk hI1 hd pkyy1 pkyd (fun q => hj1 q.symm)
                have hne2 : yy2 ≠ yd := own_inj hAll hkk hI2 hd pkyy2 pkyd (fun q => hj2 q.symm)
                obtain rfl : got = ci0 := egot.trans (own_no3 hD hd hj0 hj1 hj2 hl3)
                refine GoW.step (fun _ k => XS.istore X949.here hx rfl (hb hby at_106) rfl (l' := #[vi p1, vi p2, vi p3, vi p4, vi ar, vi dp, vr hot, vr b113, .val cv0, vr uu70, vr yd, .val cv5, .unset]) rfl (XS.aload X949.here hx rfl (hb hby at_108) rfl rfl (XS.iload X949.here hx rfl (hb hby at_110) rfl (XS.iconst X949.here hx rfl (hb hby at_112) (XS.aload X949.here hx rfl (hb hby at_113) rfl rfl k))))) ?_
                show GoW p e below s _ _ _ T949 (mkF m 115 #[vi p1, vi p2, vi p3, vi p4, vi ar, vi dp, vr hot, vr b113, .val cv0, vr uu70, vr yd, .val cv5, .unset] [(.ref yd), cv2, cv5, (.ref uu70)])
                obtain ⟨_, _, ⟨T966, L966, k966, n966⟩, -, X966, ⟨Lc966, hQ966, l966, y966, z966⟩, st966⟩ := Jvm.LawKit.callS X949 hx (y := xm39) hown149 (mvT hZ149 (tw244 hw)) (mvT hZ149 (tw245 hw)) (mvT hZ149 (tw246 hw)) (mvT hZ149 (tw247 hw)) (by decide) (backOf (W := 0) (rm_TripNightInTownPinLaw_at_1 l Z a0 hw [] uu70 ci5 ci2 yd ci5 uu71 uu72 ci6 ([(.ref xi), (.ref xo), (.ref yy0), (.ref yy1), (.ref yy2), .null]) yy0 T942.heap n0 f945 (by decide) P942_1 P942_3 P942_4 P942_7 rfl (by decide) (by decide) (by decide) hne0) hZ149 (tw247 hw) (tw246 hw) (by decide) (by decide)) (g := (mkF m 115 #[vi p1, vi p2, vi p3, vi p4, vi ar, vi dp, vr hot, vr b113, .val cv0, vr uu70, vr yd, .val cv5, .unset] [(.ref yd), cv2, cv5, (.ref uu70)])) rfl (by rw [hml]; rfl) (argsL := [(.ref uu70), cv5, cv2, (.ref yd)]) (rest := []) (lenOf pd_24 rfl) rfl (Nat.le_of_eq rfl) (hb hby at_115) (fun _ _ => ⟨rfl, eq949, (by decide : 10 + 0 ≤ _), (by decide : 49 + 0 ≤ _)⟩)
                dsimp only [Pt.U, Pt.locs, Pt.cells, Pt.slots] at X966 l966 y966 z966 st966 hQ966
                subst l966 y966 z966
                obtain ⟨rfl, N966q, eq966⟩ := hQ966
                have N967 := Fr.app N950 N966q
                refine GoW.step (fun _ k => st966 _ (XS.ifNo X966.here hx rfl (hb hby at_118) rfl ((if0 _ _).trans (teq (by decide)).2) (XS.aload X966.here hx rfl (hb hby at_121) rfl rfl (XS.iload X966.here hx rfl (hb hby at_123) rfl (XS.iconst X966.here hx rfl (hb hby at_125) (XS.aload X966.here hx rfl (hb hby at_126) rfl rfl k)))))) ?_
                show GoW p e below s _ _ _ T966 (mkF m 128 #[vi p1, vi p2, vi p3, vi p4, vi ar, vi dp, vr hot, vr b113, .val cv0, vr uu70, vr yd, .val cv5, .unset] [(.ref yd), cv3, cv5, (.ref uu70)])
                obtain ⟨_, _, ⟨T968, L968, k968, n968⟩, -, X968, ⟨Lc968, hQ968, l968, y968, z968⟩, st968⟩ := Jvm.LawKit.callS X966 hx (y := xm39) hown149 (mvT hZ149 (tw244 hw)) (mvT hZ149 (tw245 hw)) (mvT hZ149 (tw246 hw)) (mvT hZ149 (tw247 hw)) (by decide) (backOf (W := 0) (rm_TripNightInTownPinLaw_at_1 l Z a0 hw [] uu70 ci5 ci3 yd ci5 uu71 uu72 ci6 ([(.ref xi), (.ref xo), (.ref yy0), (.ref yy1), (.ref yy2), .null]) yy1 T942.heap n0 f945 (by decide) P942_1 P942_3 P942_4 P942_7 rfl (by decide) (by decide) (by decide) hne1) hZ149 (tw247 hw) (tw246 hw) (by decide) (by decide)) (g := (mkF m 128 #[vi p1, vi p2, vi p3, vi p4, vi ar, vi dp, vr hot, vr b113, .val cv0, vr uu70, vr yd, .val cv5, .unset] [(.ref yd), cv3, cv5, (.ref uu70)])) rfl (by rw [hml]; rfl) (argsL := [(.ref uu70), cv5, cv3, (.ref yd)]) (rest := []) (lenOf pd_24 rfl) rfl (Nat.le_of_eq rfl) (hb hby at_128) (fun _ _ => ⟨rfl, eq966, (by decide : 10 + 0 ≤ _), (by decide : 49 + 0 ≤ _)⟩)
                dsimp only [Pt.U, Pt.locs, Pt.cells, Pt.slots] at X968 l968 y968 z968 st968 hQ968
                subst l968 y968 z968
                obtain ⟨rfl, N968q, eq968⟩ := hQ968
                have N969 := Fr.app N967 N968q
                refine GoW.step (fun _ k => st968 _ (XS.ifNo X968.here hx rfl (hb hby at_131) rfl ((if0 _ _).trans (teq (by decide)).2) (XS.aload X968.here hx rfl (hb hby at_134) rfl rfl (XS.iload X968.here hx rfl (hb hby at_136) rfl (XS.iconst X968.here hx rfl (hb hby at_138) (XS.aload X968.here hx rfl (hb hby at_139) rfl rfl k)))))) ?_
                show GoW p e below s _ _ _ T968 (mkF m 141 #[vi p1, vi p2, vi p3, vi p4, vi ar, vi dp, vr hot, vr b113, .val cv0, vr uu70, vr yd, .val cv5, .unset] [(.ref yd), cv4, cv5, (.ref uu70)])
                obtain ⟨_, _, ⟨T970, L970, k970, n970⟩, -, X970, ⟨Lc970, hQ970, l970, y970, z970⟩, st970⟩ := Jvm.LawKit.callS X968 hx (y := xm39) hown149 (mvT hZ149 (tw244 hw)) (mvT hZ149 (tw245 hw)) (mvT hZ149 (tw246 hw)) (mvT hZ149 (tw247 hw)) (by decide) (backOf (W := 0) (rm_TripNightInTownPinLaw_at_1 l Z a0 hw [] uu70 ci5 ci4 yd ci5 uu71 uu72 ci6 ([(.ref xi), (.ref xo), (.ref yy0), (.ref yy1), (.ref yy2), .null]) yy2 T942.heap n0 f945 (by decide) P942_1 P942_3 P942_4 P942_7 rfl (by decide) (by decide) (by decide) hne2) hZ149 (tw247 hw) (tw246 hw) (by decide) (by decide)) (g := (mkF m 141 #[vi p1, vi p2, vi p3, vi p4, vi ar, vi dp, vr hot, vr b113, .val cv0, vr uu70, vr yd, .val cv5, .unset] [(.ref yd), cv4, cv5, (.ref uu70)])) rfl (by rw [hml]; rfl) (argsL := [(.ref uu70), cv5, cv4, (.ref yd)]) (rest := []) (lenOf pd_24 rfl) rfl (Nat.le_of_eq rfl) (hb hby at_141) (fun _ _ => ⟨rfl, eq968, (by decide : 10 + 0 ≤ _), (by decide : 49 + 0 ≤ _)⟩)
                dsimp only [Pt.U, Pt.locs, Pt.cells, Pt.slots] at X970 l970 y970 z970 st970 hQ970
                subst l970 y970 z970
                obtain ⟨rfl, N970q, eq970⟩ := hQ970
                have N971 := Fr.app N969 N970q
                refine GoW.step (fun _ k => st970 _ (XS.ifNo X970.here hx rfl (hb hby at_144) rfl ((if0 _ _).trans (teq (by decide)).2) (XS.aload X970.here hx rfl (hb hby at_147) rfl rfl (XS.iload X970.here hx rfl (hb hby at_149) rfl (XS.iconst X970.here hx rfl (hb hby at_151) (XS.aload X970.here hx rfl (hb hby at_152) rfl rfl k)))))) ?_
                show GoW p e below s _ _ _ T970 (mkF m 154 #[vi p1, vi p2, vi p3, vi p4, vi ar, vi dp, vr hot, vr b113, .val cv0, vr uu70, vr yd, .val cv5, .unset] [(.ref yd), cv5, cv5, (.ref uu70)])
                obtain ⟨_, _, ⟨T972, L972, k972, n972⟩, -, X972, ⟨Lc972, hQ972, l972, y972, z972⟩, st972⟩ := Jvm.LawKit.callS X970 hx (y := xm39) hown149 (mvT hZ149 (tw244 hw)) (mvT hZ149 (tw245 hw)) (mvT hZ149 (tw246 hw)) (mvT hZ149 (tw247 hw)) (by decide) (backOf (W := 0) (rm_TripNightInTownPinLaw_at_2 l Z a0 hw [] uu70 ci5 ci5 yd T942.heap n0 f945 (by decide)) hZ149 (tw247 hw) (tw246 hw) (by decide) (by decide)) (g := (mkF m 154 #[vi p1, vi p2, vi p3, vi p4, vi ar, vi dp, vr hot, vr b113, .val cv0, vr uu70, vr yd, .val cv5, .unset] [(.ref yd), cv5, cv5, (.ref uu70)])) rfl (by rw [hml]; rfl) (argsL := [(.ref uu70), cv5, cv5, (.ref yd)]) (rest := []) (lenOf pd_24 rfl) rfl (Nat.le_of_eq rfl) (hb hby at_154) (fun _ _ => ⟨rfl, eq970, (by decide : 10 + 0 ≤ _), (by decide : 49 + 0 ≤ _)⟩)
                dsimp only [Pt.U, Pt.locs, Pt.cells, Pt.slots] at X972 l972 y972 z972 st972 hQ972
                subst l972 y972 z972
                obtain ⟨rfl, N972q, eq972⟩ := hQ972
                have N973 := Fr.app N971 N972q
                refine GoW.step (fun _ k => st972 _ (XS.ifYes X972.here hx rfl (pc0 := 157) (pc' := 164) rfl (hb hby at_157) rfl ((if0 _ _).trans (teq (by decide)).1) (by decide) (by decide) (XS.iconst X972.here hx rfl (hb hby at_164) (XS.istore X972.here hx rfl (hb hby at_165) rfl (l' := #[vi p1, vi p2, vi p3, vi p4, vi ar, vi dp, vr hot, vr b113, .val cv0, vr uu70, vr yd, .val cv5, .val cv0]) rfl (XS.iload X972.here hx rfl (hb hby at_167) rfl (XS.iload X972.here hx rfl (hb hby at_169) rfl (XS.icmpNo X972.here hx rfl (hb hby at_171) rfl (teq (by decide)).2 (XS.iconst X972.here hx rfl (hb hby at_174) (XS.goto X972.here hx rfl (pc0 := 175) (pc' := 179) rfl (hb hby at_175) (by decide) (by decide) k))))))))) ?_
                show GoW p e below s _ _ _ T972 (mkF m 179 #[vi p1, vi p2, vi p3, vi p4, vi ar, vi dp, vr hot, vr b113, .val cv0, vr uu70, vr yd, .val cv5, .val cv0] [cv1])
                have f974 := (Nat.le_trans (Nat.le_refl _) K942.1)
                exact GoW.retN X972 hS149 hx hlk (t := .boolean) Bd.returns (by simp) (hb hby at_179) eq972 f974 ⟨rfl, N973⟩ (by decide) (by decide)
        · obtain ⟨hl0, hl1, hl2, hl3, hI1, hI2, hI3, hl4⟩ := hn
          obtain ⟨yy0, pkyy0, Zyy0⟩ := own_rm hAll hkk har
          have f975 := Zyy0.ext f156.2
          obtain ⟨yy1, pkyy1, Zyy1⟩ := own_rm hAll hkk hI1
          have f976 := Zyy1.ext f156.2
          obtain ⟨yy2, pkyy2, Zyy2⟩ := own_rm hAll hkk hI2
          have f977 := Zyy2.ext f156.2
          obtain ⟨yy3, pkyy3, Zyy3⟩ := own_rm hAll hkk hI3
          have f978 := Zyy3.ext f156.2
          refine GoW.step (fun _ k => XS.aload X153.here hx rfl (hb hby at_84) rfl rfl k) ?_
          show GoW p e below s _ _ _ T153 (mkF m 86 #[vi p1, vi p2, vi p3, vi p4, vi ar, vi dp, vr hot, vr b113, vi got, .unset, .unset, .unset, .unset] [(.ref b113)])
          obtain ⟨cq1127, kq1127, q1127a, q1127b, q1127c⟩ := isOf hZ149 eq153 f154
          obtain ⟨_, _, ⟨T1127, L1127, k1127, n1127⟩, -, X1127, ⟨Lc1127, hQ1127, l1127, y1127, z1127⟩, st1127⟩ := X153.virtualBack hx (y := xm23) (z := xm23) hown149 (mvT hZ149 (tw44 hw)) (mvT hZ149 (tw45 hw)) (notFace_of_selects (args := #[]) (mvT hZ149 (tw47 hw))) (mvT hZ149 (tw47 hw)) (mvT hZ149 (tw46 hw)) (by decide) (backOf (W := 0) (rm_Trip_goods_3 l Z a0 hw [] b113 ar els xi dp xo m12 mal moa em hot kk yy0 hg yy1 yy2 yy3 li al ea kea lo lg lc T149.heap n0 f152 P149_0 pkxi har f156 Z_S_INFLIGHT Z_E_li Z_F_first_li Z_F_ordinal_li Z_S_ALL Z_E_al Z_F_elements_al Z_A_ea f157 P149_1 pkxo hO Z_S_OUTFLIGHT Z_E_lo Z_F_first_lo Z_F_ordinal_lo f158 M_m12 M_mal M_moa Z_S_EMPTY Z_E_em ne_xo (Mir.ne M_m12 M_mal (by decide)) hl0 P149_2 pkyy0 hKk Z_S_GOOD Z_S_GOOD_HOTEL Z_E_lg Z_F_first_lg Z_F_ordinal_lg Z_S_CHEAP_HOTEL Z_E_lc Z_F_first_lc Z_F_ordinal_lc f975 hl1 pkyy1 hI1 f976 hl2 pkyy2 hI2 f977 hl3 pkyy3 hI3 f978 hl4) hZ149 (tw48 hw) (tw6 hw) (by decide) (by decide)) q1127a q1127c (g := (mkF m 86 #[vi p1, vi p2, vi p3, vi p4, vi ar, vi dp, vr hot, vr b113, vi got, .unset, .unset, .unset, .unset] [(.ref b113)])) rfl (by rw [hml]; rfl) (Steps.refl _) (argsL := []) (rest := []) (lenOf pd_22 rfl) rfl (Nat.le_of_eq rfl) (hb hby at_86) (fun _ _ => ⟨rfl, eq153, (by decide : 3 + 7 ≤ _), (by decide : 27 + 22 ≤ _)⟩)
          dsimp only [Pt.U, Pt.locs, Pt.cells, Pt.slots] at X1127 l1127 y1127 z1127 st1127 hQ1127
          subst l1127 y1127 z1127
          obtain ⟨uu73, uu74, uu75, rfl, N1127q, K1127, P1127_0, P1127_1, P1127_2, P1127_3, P1127_4, P1127_5, P1127_6, P1127_7, P1127_8, P1127_9⟩ := hQ1127
          have N1128 := Fr.app N155 N1127q
          refine GoW.step (fun _ k => st1127.trans (XS.astore X1127.here hx rfl (hb hby at_89) rfl rfl (l' := #[vi p1, vi p2, vi p3, vi p4, vi ar, vi dp, vr hot, vr b113, vi got, vr uu73, .unset, .unset, .unset]) rfl (XS.aload X1127.here hx rfl (hb hby at_91) rfl rfl (XS.iloadN X1127.here hx rfl (hb hby at_93) rfl k)))) ?_
          show GoW p e below s _ _ _ T1127 (mkF m 94 #[vi p1, vi p2, vi p3, vi p4, vi ar, vi dp, vr hot, vr b113, vi got, vr uu73, .unset, .unset, .unset] [(.int p4), (.ref hot)])
          have f1129 := (f156.keep K1127 all0)
          have f1130 := (Nat.le_trans f152 K1127.1)
          have f1131 := (f159.keep K1127)
          obtain ⟨_, _, ⟨T1132, L1132, k1132, n1132⟩, -, X1132, ⟨Lc1132, hQ1132, l1132, y1132, z1132⟩, st1132⟩ := Jvm.LawKit.callS X1127 hx (y := xm30) hown149 (mvT hZ149 (tw235 hw)) (mvT hZ149 (tw189 hw)) (mvT hZ149 (tw54 hw)) (mvT hZ149 (tw190 hw)) (by decide) (backOf (W := 0) (rm_room l Z a0 hw [] hot kk p4 yd hg lg lc al ea kea els T1127.heap n0 f1130 f1129 Z_S_GOOD Z_S_GOOD_HOTEL Z_E_lg Z_F_first_lg Z_F_ordinal_lg Z_S_CHEAP_HOTEL Z_E_lc Z_F_first_lc Z_F_ordinal_lc Z_S_ALL Z_E_al Z_F_elements_al Z_A_ea f1131 hKk hd pkyd) hZ149 (tw190 hw) (tw54 hw) (by decide) (by decide)) (g := (mkF m 94 #[vi p1, vi p2, vi p3, vi p4, vi ar, vi dp, vr hot, vr b113, vi got, vr uu73, .unset, .unset, .unset] [(.int p4), (.ref hot)])) rfl (by rw [hml]; rfl) (argsL := [(.ref hot), (.int p4)]) (rest := []) (lenOf pd_16 rfl) rfl (Nat.le_of_eq rfl) (hb hby at_94) (fun _ _ => ⟨rfl, rfl, (by decide : 10 + 0 ≤ _), (by decide : 49 + 0 ≤ _)⟩)
          dsimp only [Pt.U, Pt.locs, Pt.cells, Pt.slots] at X1132 l1132 y1132 z1132 st1132 hQ1132
          subst l1132 y1132 z1132
          obtain ⟨rfl, N1132q, eq1132⟩ := hQ1132
          have N1133 := Fr.app N1128 N1132q
          refine GoW.step (fun _ k => st1132 _ (XS.astore X1132.here hx rfl (hb hby at_97) rfl rfl (l' := #[vi p1, vi p2, vi p3, vi p4, vi ar, vi dp, vr hot, vr b113, vi got, vr uu73, vr yd, .unset, .unset]) rfl (XS.aload X1132.here hx rfl (hb hby at_99) rfl rfl k))) ?_
          show GoW p e below s _ _ _ T1132 (mkF m 101 #[vi p1, vi p2, vi p3, vi p4, vi ar, vi dp, vr hot, vr b113, vi got, vr uu73, vr yd, .unset, .unset] [(.ref uu73)])
          obtain ⟨cq1134, kq1134, q1134a, q1134b, q1134c⟩ := isOf hZ149 eq1132 P1127_1
          obtain ⟨_, _, ⟨T1134, L1134, k1134, n1134⟩, -, X1134, ⟨Lc1134, hQ1134, l1134, y1134, z1134⟩, st1134⟩ := X1132.interfaceBack hx (xi := xm25) (y := xm24) hown149 (mvT hZ149 (tw236 hw)) (mvT hZ149 (tw237 hw)) (mvT hZ149 (tw238 hw)) (mvT hZ149 (tw239 hw)) (mvT hZ149 (tw240 hw)) (mvT hZ149 (tw241 hw)) (mvT hZ149 (tw242 hw)) (mvT hZ149 (tw202 hw)) (by decide) (backOf (W := 0) (rm_ArrayList_size_0 l Z a0 hw [] uu73 ci6 T1127.heap n0 f1130 P1127_3) hZ149 (tw243 hw) (tw51 hw) (by decide) (by decide)) q1134a q1134b q1134c (g := (mkF m 101 #[vi p1, vi p2, vi p3, vi p4, vi ar, vi dp, vr hot, vr b113, vi got, vr uu73, vr yd, .unset, .unset] [(.ref uu73)])) rfl (by rw [hml]; rfl) (Steps.refl _) (argsL := []) (rest := []) (lenOf pd_0 rfl) rfl (Nat.le_of_eq rfl) (hb hby at_101) (fun _ _ => ⟨rfl, eq1132, (by decide : 10 + 0 ≤ _), (by decide : 49 + 0 ≤ _)⟩)
          dsimp only [Pt.U, Pt.locs, Pt.cells, Pt.slots] at X1134 l1134 y1134 z1134 st1134 hQ1134
          subst l1134 y1134 z1134
          obtain ⟨rfl, N1134q, eq1134⟩ := hQ1134
          have N1135 := Fr.app N1133 N1134q
          refine GoW.step (fun _ k => st1134.trans k) ?_
          show GoW p e below s _ _ _ T1134 (mkF m 106 #[vi p1, vi p2, vi p3, vi p4, vi ar, vi dp, vr hot, vr b113, vi got, vr uu73, vr yd, .unset, .unset] [cv6])
          by_cases hj0 : p4 = ar
          · have hey : yy0 = yd := own_same1 pkyy0 pkyd hj0
            obtain rfl : got = ci1 := egot.trans (own_yes0 hD hj0 hl0)
            refine GoW.step (fun _ k => XS.istore X1134.here hx rfl (hb hby at_106) rfl (l' := #[vi p1, vi p2, vi p3, vi p4, vi ar, vi dp, vr hot, vr b113, .val cv1, vr uu73, vr yd, .val cv6, .unset]) rfl (XS.aload X1134.here hx rfl (hb hby at_108) rfl rfl (XS.iload X1134.here hx rfl (hb hby at_110) rfl (XS.iconst X1134.here hx rfl (hb hby at_112) (XS.aload X1134.here hx rfl (hb hby at_113) rfl rfl k))))) ?_
            show GoW p e below s _ _ _ T1134 (mkF m 115 #[vi p1, vi p2, vi p3, vi p4, vi ar, vi dp, vr hot, vr b113, .val cv1, vr uu73, vr yd, .val cv6, .unset] [(.ref yd), cv2, cv6, (.ref uu73)])
            obtain ⟨_, _, ⟨T1136, L1136, k1136, n1136⟩, -, X1136, ⟨Lc1136, hQ1136, l1136, y1136, z1136⟩, st1136⟩ := Jvm.LawKit.callS X1134 hx (y := xm39) hown149 (mvT hZ149 (tw244 hw)) (mvT hZ149 (tw245 hw)) (mvT hZ149 (tw246 hw)) (mvT hZ149 (tw247 hw)) (by decide) (backOf (W := 0) (rm_TripNightInTownPinLaw_at_0 l Z a0 hw [] uu73 ci6 ci2 yd ci6 uu74 uu75 ci6 ([(.ref xi), (.ref xo), (.ref yy0), (.ref yy1), (.ref yy2), (.ref yy3)]) yy0 T1127.heap n0 f1130 (by decide) P1127_1 P1127_3 P1127_4 P1127_7 rfl (by decide) (by decide) (by decide) hey) hZ149 (tw247 hw) (tw246 hw) (by decide) (by decide)) (g := (mkF m 115 #[vi p1, vi p2, vi p3, vi p4, vi ar, vi dp, vr hot, vr b113, .val cv1, vr uu73, vr yd, .val cv6, .unset] [(.ref yd), cv2, cv6, (.ref uu73)])) rfl (by rw [hml]; rfl) (argsL := [(.ref uu73), cv6, cv2, (.ref yd)]) (rest := []) (lenOf pd_24 rfl) rfl (Nat.le_of_eq rfl) (hb hby at_115) (fun _ _ => ⟨rfl, eq1134, (by decide : 10 + 0 ≤ _), (by decide : 49 + 0 ≤ _)⟩)
            dsimp only [Pt.U, Pt.locs, Pt.cells, Pt.slots] at X1136 l1136 y1136 z1136 st1136 hQ1136
            subst l1136 y1136 z1136
            obtain ⟨rfl, N1136q, eq1136⟩ := hQ1136
            have N1137 := Fr.app N1135 N1136q
            refine GoW.step (fun _ k => st1136 _ (XS.ifYes X1136.here hx rfl (pc0 := 118) (pc' := 160) rfl (hb hby at_118) rfl ((if0 _ _).trans (feq (by decide)).2) (by decide) (by decide) (XS.iconst X1136.here hx rfl (hb hby at_160) (XS.goto X1136.here hx rfl (pc0 := 161) (pc' := 165) rfl (hb hby at_161) (by decide) (by decide) (XS.istore X1136.here hx rfl (hb hby at_165) rfl (l' := #[vi p1, vi p2, vi p3, vi p4, vi ar, vi dp, vr hot, vr b113, .val cv1, vr uu73, vr yd, .val cv6, .val cv1]) rfl (XS.iload X1136.here hx rfl (hb hby at_167) rfl (XS.iload X1136.here hx rfl (hb hby at_169) rfl (XS.icmpNo X1136.here hx rfl (hb hby at_171) rfl (teq (by decide)).2 (XS.iconst X1136.here hx rfl (hb hby at_174) (XS.goto X1136.here hx rfl (pc0 := 175) (pc' := 179) rfl (hb hby at_175) (by decide) (by decide) k)))))))))) ?_
            show GoW p e below s _ _ _ T1136 (mkF m 179 #[vi p1, vi p2, vi p3, vi p4, vi ar, vi dp, vr hot, vr b113, .val cv1, vr uu73, vr yd, .val cv6, .val cv1] [cv1])
            have f1138 := (Nat.le_trans (Nat.le_refl _) K1127.1)
            exact GoW.retN X1136 hS149 hx hlk (t := .boolean) Bd.returns (by simp) (hb hby at_179) eq1136 f1138 ⟨rfl, N1137⟩ (by decide) (by decide)
          · by_cases hj1 : p4 = (ar + ci1)
            · have hne0 : yy0 ≠ yd := own_inj hAll hkk har hd pkyy0 pkyd (fun q => hj0 q.symm)
              have hey : yy1 = yd := own_same1 pkyy1 pkyd hj1
              obtain rfl : got = ci1 := egot.trans (own_yes1 hD hj1 hl1)
              refine GoW.step (fun _ k => XS.istore X1134.here hx rfl (hb hby at_106) rfl (l' := #[vi p1, vi p2, vi p3, vi p4, vi ar, vi dp, vr hot, vr b113, .val cv1, vr uu73, vr yd, .val cv6, .unset]) rfl (XS.aload X1134.here hx rfl (hb hby at_108) rfl rfl (XS.iload X1134.here hx rfl (hb hby at_110) rfl (XS.iconst X1134.here hx rfl (hb hby at_112) (XS.aload X1134.here hx rfl (hb hby at_113) rfl rfl k))))) ?_
              show GoW p e below s _ _ _ T1134 (mkF m 115 #[vi p1, vi p2, vi p3, vi p4, vi ar, vi dp, vr hot, vr b113, .val cv1, vr uu73, vr yd, .val cv6, .unset] [(.ref yd), cv2, cv6, (.ref uu73)])
              obtain ⟨_, _, ⟨T1139, L1139, k1139, n1139⟩, -, X1139, ⟨Lc1139, hQ1139, l1139, y1139, z1139⟩, st1139⟩ := Jvm.LawKit.callS X1134 hx (y := xm39) hown149 (mvT hZ149 (tw244 hw)) (mvT hZ149 (tw245 hw)) (mvT hZ149 (tw246 hw)) (mvT hZ149 (tw247 hw)) (by decide) (backOf (W := 0) (rm_TripNightInTownPinLaw_at_1 l Z a0 hw [] uu73 ci6 ci2 yd ci6 uu74 uu75 ci6 ([(.ref xi), (.ref xo), (.ref yy0), (.ref yy1), (.ref yy2), (.ref yy3)]) yy0 T1127.heap n0 f1130 (by decide) P1127_1 P1127_3 P1127_4 P1127_7 rfl (by decide) (by decide) (by decide) hne0) hZ149 (tw247 hw) (tw246 hw) (by decide) (by decide)) (g := (mkF m 115 #[vi p1, vi p2, vi p3, vi p4, vi ar, vi dp, vr hot, vr b113, .val cv1, vr uu73, vr yd, .val cv6, .unset] [(.ref yd), cv2, cv6, (.ref uu73)])) rfl (by rw [hml]; rfl) (argsL := [(.ref uu73), cv6, cv2, (.ref yd)]) (rest := []) (lenOf pd_24 rfl) rfl (Nat.le_of_eq rfl) (hb hby at_115) (fun _ _ => ⟨rfl, eq1134, (by decide : 10 + 0 ≤ _), (by decide : 49 + 0 ≤ _)⟩)
              dsimp only [Pt.U, Pt.locs, Pt.cells, Pt.slots] at X1139 l1139 y1139 z1139 st1139 hQ1139
              subst l1139 y1139 z1139
              obtain ⟨rfl, N1139q, eq1139⟩ := hQ1139
              have N1140 := Fr.app N1135 N1139q
              refine GoW.step (fun _ k => st1139 _ (XS.ifNo X1139.here hx rfl (hb hby at_118) rfl ((if0 _ _).trans (teq (by decide)).2) (XS.aload X1139.here hx rfl (hb hby at_121) rfl rfl (XS.iload X1139.here hx rfl (hb hby at_123) rfl (XS.iconst X1139.here hx rfl (hb hby at_125) (XS.aload X1139.here hx rfl (hb hby at_126) rfl rfl k)))))) ?_
              show GoW p e below s _ _ _ T1139 (mkF m 128 #[vi p1, vi p2, vi p3, vi p4, vi ar, vi dp, vr hot, vr b113, .val cv1, vr uu73, vr yd, .val cv6, .unset] [(.ref yd), cv3, cv6, (.ref uu73)])
              obtain ⟨_, _, ⟨T1141, L1141, k1141, n1141⟩, -, X1141, ⟨Lc1141, hQ1141, l1141, y1141, z1141⟩, st1141⟩ := Jvm.LawKit.callS X1139 hx (y := xm39) hown149 (mvT hZ149 (tw244 hw)) (mvT hZ149 (tw245 hw)) (mvT hZ149 (tw246 hw)) (mvT hZ149 (tw247 hw)) (by decide) (backOf (W := 0) (rm_TripNightInTownPinLaw_at_0 l Z a0 hw [] uu73 ci6 ci3 yd ci6 uu74 uu75 ci6 ([(.ref xi), (.ref xo), (.ref yy0), (.ref yy1), (.ref yy2), (.ref yy3)]) yy1 T1127.heap n0 f1130 (by decide) P1127_1 P1127_3 P1127_4 P1127_7 rfl (by decide) (by decide) (by decide) hey) hZ149 (tw247 hw) (tw246 hw) (by decide) (by decide)) (g := (mkF m 128 #[vi p1, vi p2, vi p3, vi p4, vi ar, vi dp, vr hot, vr b113, .val cv1, vr uu73, vr yd, .val cv6, .unset] [(.ref yd), cv3, cv6, (.ref uu73)])) rfl (by rw [hml]; rfl) (argsL := [(.ref uu73), cv6, cv3, (.ref yd)]) (rest := []) (lenOf pd_24 rfl) rfl (Nat.le_of_eq rfl) (hb hby at_128) (fun _ _ => ⟨rfl, eq1139, (by decide : 10 + 0 ≤ _), (by decide : 49 + 0 ≤ _)⟩)
              dsimp only [Pt.U, Pt.locs, Pt.cells, Pt.slots] at X1141 l1141 y1141 z1141 st1141 hQ1141
              subst l1141 y1141 z1141
              obtain ⟨rfl, N1141q, eq1141⟩ := hQ1141
              have N1142 := Fr.app N1140 N1141q
              refine GoW.step (fun _ k => st1141 _ (XS.ifYes X1141.here hx rfl (pc0 := 131) (pc' := 160) rfl (hb hby at_131) rfl ((if0 _ _).trans (feq (by decide)).2) (by decide) (by decide) (XS.iconst X1141.here hx rfl (hb hby at_160) (XS.goto X1141.here hx rfl (pc0 := 161) (pc' := 165) rfl (hb hby at_161) (by decide) (by decide) (XS.istore X1141.here hx rfl (hb hby at_165) rfl (l' := #[vi p1, vi p2, vi p3, vi p4, vi ar, vi dp, vr hot, vr b113, .val cv1, vr uu73, vr yd, .val cv6, .val cv1]) rfl (XS.iload X1141.here hx rfl (hb hby at_167) rfl (XS.iload X1141.here hx rfl (hb hby at_169) rfl (XS.icmpNo X1141.here hx rfl (hb hby at_171) rfl (teq (by decide)).2 (XS.iconst X1141.here hx rfl (hb hby at_174) (XS.goto X1141.here hx rfl (pc0 := 175) (pc' := 179) rfl (hb hby at_175) (by decide) (by decide) k)))))))))) ?_
              show GoW p e below s _ _ _ T1141 (mkF m 179 #[vi p1, vi p2, vi p3, vi p4, vi ar, vi dp, vr hot, vr b113, .val cv1, vr uu73, vr yd, .val cv6, .val cv1] [cv1])
              have f1143 := (Nat.le_trans (Nat.le_refl _) K1127.1)
              exact GoW.retN X1141 hS149 hx hlk (t := .boolean) Bd.returns (by simp) (hb hby at_179) eq1141 f1143 ⟨rfl, N1142⟩ (by decide) (by decide)
            · by_cases hj2 : p4 = ((ar + ci1) + ci1)
              · have hne0 : yy0 ≠ yd := own_inj hAll hkk har hd pkyy0 pkyd (fun q => hj0 q.symm)
                have hne1 : yy1 ≠ yd := own_inj hAll hkk hI1 hd pkyy1 pkyd (fun q => hj1 q.symm)
                have hey : yy2 = yd := own_same1 pkyy2 pkyd hj2
                obtain rfl : got = ci1 := egot.trans (own_yes2 hD hj2 hl2)
                refine GoW.step (fun _ k => XS.istore X1134.here hx rfl (hb hby at_106) rfl (l' := #[vi p1, vi p2, vi p3, vi p4, vi ar, vi dp, vr hot, vr b113, .val cv1, vr uu73, vr yd, .val cv6, .unset]) rfl (XS.aload X1134.here hx rfl (hb hby at_108) rfl rfl (XS.iload X1134.here hx rfl (hb hby at_110) rfl (XS.iconst X1134.here hx rfl (hb hby at_112) (XS.aload X1134.here hx rfl (hb hby at_113) rfl rfl k))))) ?_
                show GoW p e below s _ _ _ T1134 (mkF m 115 #[vi p1, vi p2, vi p3, vi p4, vi ar, vi dp, vr hot, vr b113, .val cv1, vr uu73, vr yd, .val cv6, .unset] [(.ref yd), cv2, cv6, (.ref uu73)])
                obtain ⟨_, _, ⟨T1144, L1144, k1144, n1144⟩, -, X1144, ⟨Lc1144, hQ1144, l1144, y1144, z1144⟩, st1144⟩ := Jvm.LawKit.callS X1134 hx (y := xm39) hown149 (mvT hZ149 (tw244 hw)) (mvT hZ149 (tw245 hw)) (mvT hZ149 (tw246 hw)) (mvT hZ149 (tw247 hw)) (by decide) (backOf (W := 0) (rm_TripNightInTownPinLaw_at_1 l Z a0 hw [] uu73 ci6 ci2 yd ci6 uu74 uu75 ci6 ([(.ref xi), (.ref xo), (.ref yy0), (.ref yy1), (.ref yy2), (.ref yy3)]) yy0 T1127.heap n0 f1130 (by decide) P1127_1 P1127_3 P1127_4 P1127_7 rfl (by decide) (by decide) (by decide) hne0) hZ149 (tw247 hw) (tw246 hw) (by decide) (by decide)) (g := (mkF m 115 #[vi p1, vi p2, vi p3, vi p4, vi ar, vi dp, vr hot, vr b113, .val cv1, vr uu73, vr yd, .val cv6, .unset] [(.ref yd), cv2, cv6, (.ref uu73)])) rfl (by rw [hml]; rfl) (argsL := [(.ref uu73), cv6, cv2, (.ref yd)]) (rest := []) (lenOf pd_24 rfl) rfl (Nat.le_of_eq rfl) (hb hby at_115) (fun _ _ => ⟨rfl, eq1134, (by decide : 10 + 0 ≤ _), (by decide : 49 + 0 ≤ _)⟩)
                dsimp only [Pt.U, Pt.locs, Pt.cells, Pt.slots] at X1144 l1144 y1144 z1144 st1144 hQ1144
                subst l1144 y1144 z1144
                obtain ⟨rfl, N1144q, eq1144⟩ := hQ1144
                have N1145 := Fr.app N1135 N1144q
                refine GoW.step (fun _ k => st1144 _ (XS.ifNo X1144.here hx rfl (hb hby at_118) rfl ((if0 _ _).trans (teq (by decide)).2) (XS.aload X1144.here hx rfl (hb hby at_121) rfl rfl (XS.iload X1144.here hx rfl (hb hby at_123) rfl (XS.iconst X1144.here hx rfl (hb hby at_125) (XS.aload X1144.here hx rfl (hb hby at_126) rfl rfl k)))))) ?_
                show GoW p e below s _ _ _ T1144 (mkF m 128 #[vi p1, vi p2, vi p3, vi p4, vi ar, vi dp, vr hot, vr b113, .val cv1, vr uu73, vr yd, .val cv6, .unset] [(.ref yd), cv3, cv6, (.ref uu73)])
                obtain ⟨_, _, ⟨T1146, L1146, k1146, n1146⟩, -, X1146, ⟨Lc1146, hQ1146, l1146, y1146, z1146⟩, st1146⟩ := Jvm.LawKit.callS X1144 hx (y := xm39) hown149 (mvT hZ149 (tw244 hw)) (mvT hZ149 (tw245 hw)) (mvT hZ149 (tw246 hw)) (mvT hZ149 (tw247 hw)) (by decide) (backOf (W := 0) (rm_TripNightInTownPinLaw_at_1 l Z a0 hw [] uu73 ci6 ci3 yd ci6 uu74 uu75 ci6 ([(.ref xi), (.ref xo), (.ref yy0), (.ref yy1), (.ref yy2), (.ref yy3)]) yy1 T1127.heap n0 f1130 (by decide) P1127_1 P1127_3 P1127_4 P1127_7 rfl (by decide) (by decide) (by decide) hne1) hZ149 (tw247 hw) (tw246 hw) (by decide) (by decide)) (g := (mkF m 128 #[vi p1, vi p2, vi p3, vi p4, vi ar, vi dp, vr hot, vr b113, .val cv1, vr uu73, vr yd, .val cv6, .unset] [(.ref yd), cv3, cv6, (.ref uu73)])) rfl (by rw [hml]; rfl) (argsL := [(.ref uu73), cv6, cv3, (.ref yd)]) (rest := []) (lenOf pd_24 rfl) rfl (Nat.le_of_eq rfl) (hb hby at_128) (fun _ _ => ⟨rfl, eq1144, (by decide : 10 + 0 ≤ _), (by decide : 49 + 0 ≤ _)⟩)
                dsimp only [Pt.U, Pt.locs, Pt.cells, Pt.slots] at X1146 l1146 y1146 z1146 st1146 hQ1146
                subst l1146 y1146 z1146
                obtain ⟨rfl, N1146q, eq1146⟩ := hQ1146
                have N1147 := Fr.app N1145 N1146q
                refine GoW.step (fun _ k => st1146 _ (XS.ifNo X1146.here hx rfl (hb hby at_131) rfl ((if0 _ _).trans (teq (by decide)).2) (XS.aload X1146.here hx rfl (hb hby at_134) rfl rfl (XS.iload X1146.here hx rfl (hb hby at_136) rfl (XS.iconst X1146.here hx rfl (hb hby at_138) (XS.aload X1146.here hx rfl (hb hby at_139) rfl rfl k)))))) ?_
                show GoW p e below s _ _ _ T1146 (mkF m 141 #[vi p1, vi p2, vi p3, vi p4, vi ar, vi dp, vr hot, vr b113, .val cv1, vr uu73, vr yd, .val cv6, .unset] [(.ref yd), cv4, cv6, (.ref uu73)])
                obtain ⟨_, _, ⟨T1148, L1148, k1148, n1148⟩, -, X1148, ⟨Lc1148, hQ1148, l1148, y1148, z1148⟩, st1148⟩ := Jvm.LawKit.callS X1146 hx (y := xm39) hown149 (mvT hZ149 (tw244 hw)) (mvT hZ149 (tw245 hw)) (mvT hZ149 (tw246 hw)) (mvT hZ149 (tw247 hw)) (by decide) (backOf (W := 0) (rm_TripNightInTownPinLaw_at_0 l Z a0 hw [] uu73 ci6 ci4 yd ci6 uu74 uu75 ci6 ([(.ref xi), (.ref xo), (.ref yy0), (.ref yy1), (.ref yy2), (.ref yy3)]) yy2 T1127.heap n0 f1130 (by decide) P1127_1 P1127_3 P1127_4 P1127_7 rfl (by decide) (by decide) (by decide) hey) hZ149 (tw247 hw) (tw246 hw) (by decide) (by decide)) (g := (mkF m 141 #[vi p1, vi p2, vi p3, vi p4, vi ar, vi dp, vr hot, vr b113, .val cv1, vr uu73, vr yd, .val cv6, .unset] [(.ref yd), cv4, cv6, (.ref uu73)])) rfl (by rw [hml]; rfl) (argsL := [(.ref uu73), cv6, cv4, (.ref yd)]) (rest := []) (lenOf pd_24 rfl) rfl (Nat.le_of_eq rfl) (hb hby at_141) (fun _ _ => ⟨rfl, eq1146, (by decide : 10 + 0 ≤ _), (by decide : 49 + 0 ≤ _)⟩)
                dsimp only [Pt.U, Pt.locs, Pt.cells, Pt.slots] at X1148 l1148 y1148 z1148 st1148 hQ1148
                subst l1148 y1148 z1148
                obtain ⟨rfl, N1148q, eq1148⟩ := hQ1148
                have N1149 := Fr.app N1147 N1148q
                refine GoW.step (fun _ k => st1148 _ (XS.ifYes X1148.here hx rfl (pc0 := 144) (pc' := 160) rfl (hb hby at_144) rfl ((if0 _ _).trans (feq (by decide)).2) (by decide) (by decide) (XS.iconst X1148.here hx rfl (hb hby at_160) (XS.goto X1148.here hx rfl (pc0 := 161) (pc' := 165) rfl (hb hby at_161) (by decide) (by decide) (XS.istore X1148.here hx rfl (hb hby at_165) rfl (l' := #[vi p1, vi p2, vi p3, vi p4, vi ar, vi dp, vr hot, vr b113, .val cv1, vr uu73, vr yd, .val cv6, .val cv1]) rfl (XS.iload X1148.here hx rfl (hb hby at_167) rfl (XS.iload X1148.here hx rfl (hb hby at_169) rfl (XS.icmpNo X1148.here hx rfl (hb hby at_171) rfl (teq (by decide)).2 (XS.iconst X1148.here hx rfl (hb hby at_174) (XS.goto X1148.here hx rfl (pc0 := 175) (pc' := 179) rfl (hb hby at_175) (by decide) (by decide) k)))))))))) ?_
                show GoW p e below s _ _ _ T1148 (mkF m 179 #[vi p1, vi p2, vi p3, vi p4, vi ar, vi dp, vr hot, vr b113, .val cv1, vr uu73, vr yd, .val cv6, .val cv1] [cv1])
                have f1150 := (Nat.le_trans (Nat.le_refl _) K1127.1)
                exact GoW.retN X1148 hS149 hx hlk (t := .boolean) Bd.returns (by simp) (hb hby at_179) eq1148 f1150 ⟨rfl, N1149⟩ (by decide) (by decide)
              · by_cases hj3 : p4 = (((ar + ci1) + ci1) + ci1)
                · have hne0 : yy0 ≠ yd := own_inj hAll hkk har hd pkyy0 pkyd (fun q => hj0 q.symm)
                  have hne1 : yy1 ≠ yd := own_inj hAll hkk hI1 hd pkyy1 pkyd (fun q => hj1 q.symm)
                  have hne2 : yy2 ≠ yd := own_inj hAll hkk hI2 hd pkyy2 pkyd (fun q => hj2 q.symm)
                  have hey : yy3 = yd := own_same1 pkyy3 pkyd hj3
                  obtain rfl : got = ci1 := egot.trans (own_yes3 hD hj3 hl3)
                  refine GoW.step (fun _ k => XS.istore X1134.here hx rfl (hb hby at_106) rfl (l' := #[vi p1, vi p2, vi p3, vi p4, vi ar, vi dp, vr hot, vr b113, .val cv1, vr uu73, vr yd, .val cv6, .unset]) rfl (XS.aload X1134.here hx rfl (hb hby at_108) rfl rfl (XS.iload X1134.here hx rfl (hb hby at_110) rfl (XS.iconst X1134.here hx rfl (hb hby at_112) (XS.aload X1134.here hx rfl (hb hby at_113) rfl rfl k))))) ?_
                  show GoW p e below s _ _ _ T1134 (mkF m 115 #[vi p1, vi p2, vi p3, vi p4, vi ar, vi dp, vr hot, vr b113, .val cv1, vr uu73, vr yd, .val cv6, .unset] [(.ref yd), cv2, cv6, (.ref uu73)])
                  obtain ⟨_, _, ⟨T1151, L1151, k1151, n1151⟩, -, X1151, ⟨Lc1151, hQ1151, l1151, y1151, z1151⟩, st1151⟩ := Jvm.LawKit.callS X1134 hx (y := xm39) hown149 (mvT hZ149 (tw244 hw)) (mvT hZ149 (tw245 hw)) (mvT hZ149 (tw246 hw)) (mvT hZ149 (tw247 hw)) (by decide) (backOf (W := 0) (rm_TripNightInTownPinLaw_at_1 l Z a0 hw [] uu73 ci6 ci2 yd ci6 uu74 uu75 ci6 ([(.ref xi), (.ref xo), (.ref yy0), (.ref yy1), (.ref yy2), (.ref yy3)]) yy0 T1127.heap n0 f1130 (by decide) P1127_1 P1127_3 P1127_4 P1127_7 rfl (by decide) (by decide) (by decide) hne0) hZ149 (tw247 hw) (tw246 hw) (by decide) (by decide)) (g := (mkF m 115 #[vi p1, vi p2, vi p3, vi p4, vi ar, vi dp, vr hot, vr b113, .val cv1, vr uu73, vr yd, .val cv6, .unset] [(.ref yd), cv2, cv6, (.ref uu73)])) rfl (by rw [hml]; rfl) (argsL := [(.ref uu73), cv6, cv2, (.ref yd)]) (rest := []) (lenOf pd_24 rfl) rfl (Nat.le_of_eq rfl) (hb hby at_115) (fun _ _ => ⟨rfl, eq1134, (by decide : 10 + 0 ≤ _), (by decide : 49 + 0 ≤ _)⟩)
                  dsimp only [Pt.U, Pt.locs, Pt.cells, Pt.slots] at X1151 l1151 y1151 z1151 st1151 hQ1151
                  subst l1151 y1151 z1151
                  obtain ⟨rfl, N1151q, eq1151⟩ := hQ1151
                  have N1152 := Fr.app N1135 N1151q
                  refine GoW.step (fun _ k => st1151 _ (XS.ifNo X1151.here hx rfl (hb hby at_118) rfl ((if0 _ _).trans (teq (by decide)).2) (XS.aload X1151.here hx rfl (hb hby at_121) rfl rfl (XS.iload X1151.here hx rfl (hb hby at_123) rfl (XS.iconst X1151.here hx rfl (hb hby at_125) (XS.aload X1151.here hx rfl (hb hby at_126) rfl rfl k)))))) ?_
                  show GoW p e below s _ _ _ T1151 (mkF m 128 #[vi p1, vi p2, vi p3, vi p4, vi ar, vi dp, vr hot, vr b113, .val cv1, vr uu73, vr yd, .val cv6, .unset] [(.ref yd), cv3, cv6, (.ref uu73)])
                  obtain ⟨_, _, ⟨T1153, L1153, k1153, n1153⟩, -, X1153, ⟨Lc1153, hQ1153, l1153, y1153, z1153⟩, st1153⟩ := Jvm.LawKit.callS X1151 hx (y := xm39) hown149 (mvT hZ149 (tw244 hw)) (mvT hZ149 (tw245 hw)) (mvT hZ149 (tw246 hw)) (mvT hZ149 (tw247 hw)) (by decide) (backOf (W := 0) (rm_TripNightInTownPinLaw_at_1 l Z a0 hw [] uu73 ci6 ci3 yd ci6 uu74 uu75 ci6 ([(.ref xi), (.ref xo), (.ref yy0), (.ref yy1), (.ref yy2), (.ref yy3)]) yy1 T1127.heap n0 f1130 (by decide) P1127_1 P1127_3 P1127_4 P1127_7 rfl (by decide) (by decide) (by decide) hne1) hZ149 (tw247 hw) (tw246 hw) (by decide) (by decide)) (g := (mkF m 128 #[vi p1, vi p2, vi p3, vi p4, vi ar, vi dp, vr hot, vr b113, .val cv1, vr uu73, vr yd, .val cv6, .unset] [(.ref yd), cv3, cv6, (.ref uu73)])) rfl (by rw [hml]; rfl) (argsL := [(.ref uu73), cv6, cv3, (.ref yd)]) (rest := []) (lenOf pd_24 rfl) rfl (Nat.le_of_eq rfl) (hb hby at_128) (fun _ _ => ⟨rfl, eq1151, (by decide : 10 + 0 ≤ _), (by decide : 49 + 0 ≤ _)⟩)
                  dsimp only [Pt.U, Pt.locs, Pt.cells, Pt.slots] at X1153 l1153 y1153 z1153 st1153 hQ1153
                  subst l1153 y1153 z1153
                  obtain ⟨rfl, N1153q, eq1153⟩ := hQ1153
                  have N1154 := Fr.app N1152 N1153q
                  refine GoW.step (fun _ k => st1153 _ (XS.ifNo X1153.here hx rfl (hb hby at_131) rfl ((if0 _ _).trans (teq (by decide)).2) (XS.aload X1153.here hx rfl (hb hby at_134) rfl rfl (XS.iload X1153.here hx rfl (hb hby at_136) rfl (XS.iconst X1153.here hx rfl (hb hby at_138) (XS.aload X1153.here hx rfl (hb hby at_139) rfl rfl k)))))) ?_
                  show GoW p e below s _ _ _ T1153 (mkF m 141 #[vi p1, vi p2, vi p3, vi p4, vi ar, vi dp, vr hot, vr b113, .val cv1, vr uu73, vr yd, .val cv6, .unset] [(.ref yd), cv4, cv6, (.ref uu73)])
                  obtain ⟨_, _, ⟨T1155, L1155, k1155, n1155⟩, -, X1155, ⟨Lc1155, hQ1155, l1155, y1155, z1155⟩, st1155⟩ := Jvm.LawKit.callS X1153 hx (y := xm39) hown149 (mvT hZ149 (tw244 hw)) (mvT hZ149 (tw245 hw)) (mvT hZ149 (tw246 hw)) (mvT hZ149 (tw247 hw)) (by decide) (backOf (W := 0) (rm_TripNightInTownPinLaw_at_1 l Z a0 hw [] uu73 ci6 ci4 yd ci6 uu74 uu75 ci6 ([(.ref xi), (.ref xo), (.ref yy0), (.ref yy1), (.ref yy2), (.ref yy3)]) yy2 T1127.heap n0 f1130 (by decide) P1127_1 P1127_3 P1127_4 P1127_7 rfl (by decide) (by decide) (by decide) hne2) hZ149 (tw247 hw) (tw246 hw) (by decide) (by decide)) (g := (mkF m 141 #[vi p1, vi p2, vi p3, vi p4, vi ar, vi dp, vr hot, vr b113, .val cv1, vr uu73, vr yd, .val cv6, .unset] [(.ref yd), cv4, cv6, (.ref uu73)])) rfl (by rw [hml]; rfl) (argsL := [(.ref uu73), cv6, cv4, (.ref yd)]) (rest := []) (lenOf pd_24 rfl) rfl (Nat.le_of_eq rfl) (hb hby at_141) (fun _ _ => ⟨rfl, eq1153, (by decide : 10 + 0 ≤ _), (by decide : 49 + 0 ≤ _)⟩)
                  dsimp only [Pt.U, Pt.locs, Pt.cells, Pt.slots] at X1155 l1155 y1155 z1155 st1155 hQ1155
                  subst l1155 y1155 z1155
                  obtain ⟨rfl, N1155q, eq1155⟩ := hQ1155
                  have N1156 := Fr.app N1154 N1155q
                  refine GoW.step (fun _ k => st1155 _ (XS.ifNo X1155.here hx rfl (hb hby at_144) rfl ((if0 _ _).trans (teq (by decide)).2) (XS.aload X1155.here hx rfl (hb hby at_147) rfl rfl (XS.iload X1155.here hx rfl (hb hby at_149) rfl (XS.iconst X1155.here hx rfl (hb hby at_151) (XS.aload X1155.here hx rfl (hb hby at_152) rfl rfl k)))))) ?_
                  show GoW p e below s _ _ _ T1155 (mkF m 154 #[vi p1, vi p2, vi p3, vi p4, vi ar, vi dp, vr hot, vr b113, .val cv1, vr uu73, vr yd, .val cv6, .unset] [(.ref yd), cv5, cv6, (.ref uu73)])
                  obtain ⟨_, _, ⟨T1157, L1157, k1157, n1157⟩, -, X1157, ⟨Lc1157, hQ1157, l1157, y1157, z1157⟩, st1157⟩ := Jvm.LawKit.callS X1155 hx (y := xm39) hown149 (mvT hZ149 (tw244 hw)) (mvT hZ149 (tw245 hw)) (mvT hZ149 (tw246 hw)) (mvT hZ149 (tw247 hw)) (by decide) (backOf (W := 0) (rm_TripNightInTownPinLaw_at_0 l Z a0 hw [] uu73 ci6 ci5 yd ci6 uu74 uu75 ci6 ([(.ref xi), (.ref xo), (.ref yy0), (.ref yy1), (.ref yy2), (.ref yy3)]) yy3 T1127.heap n0 f1130 (by decide) P1127_1 P1127_3 P1127_4 P1127_7 rfl (by decide) (by decide) (by decide) hey) hZ149 (tw247 hw) (tw246 hw) (by decide) (by decide)) (g := (mkF m 154 #[vi p1, vi p2, vi p3, vi p4, vi ar, vi dp, vr hot, vr b113, .val cv1, vr uu73, vr yd, .val cv6, .unset] [(.ref yd), cv5, cv6, (.ref uu73)])) rfl (by rw [hml]; rfl) (argsL := [(.ref uu73), cv6, cv5, (.ref yd)]) (rest := []) (lenOf pd_24 rfl) rfl (Nat.le_of_eq rfl) (hb hby at_154) (fun _ _ => ⟨rfl, eq1155, (by decide : 10 + 0 ≤ _), (by decide : 49 + 0 ≤ _)⟩)
                  dsimp only [Pt.U, Pt.locs, Pt.cells, Pt.slots] at X1157 l1157 y1157 z1157 st1157 hQ1157
                  subst l1157 y1157 z1157
                  obtain ⟨rfl, N1157q, eq1157⟩ := hQ1157
                  have N1158 := Fr.app N1156 N1157q
                  refine GoW.step (fun _ k => st1157 _ (XS.ifNo X1157.here hx rfl (hb hby at_157) rfl ((if0 _ _).trans (feq (by decide)).1) (XS.iconst X1157.here hx rfl (hb hby at_160) (XS.goto X1157.here hx rfl (pc0 := 161) (pc' := 165) rfl (hb hby at_161) (by decide) (by decide) (XS.istore X1157.here hx rfl (hb hby at_165) rfl (l' := #[vi p1, vi p2, vi p3, vi p4, vi ar, vi dp, vr hot, vr b113, .val cv1, vr uu73, vr yd, .val cv6, .val cv1]) rfl (XS.iload X1157.here hx rfl (hb hby at_167) rfl (XS.iload X1157.here hx rfl (hb hby at_169) rfl (XS.icmpNo X1157.here hx rfl (hb hby at_171) rfl (teq (by decide)).2 (XS.iconst X1157.here hx rfl (hb hby at_174) (XS.goto X1157.here hx rfl (pc0 := 175) (pc' := 179) rfl (hb hby at_175) (by decide) (by decide) k)))))))))) ?_
                  show GoW p e below s _ _ _ T1157 (mkF m 179 #[vi p1, vi p2, vi p3, vi p4, vi ar, vi dp, vr hot, vr b113, .val cv1, vr uu73, vr yd, .val cv6, .val cv1] [cv1])
                  have f1159 := (Nat.le_trans (Nat.le_refl _) K1127.1)
                  exact GoW.retN X1157 hS149 hx hlk (t := .boolean) Bd.returns (by simp) (hb hby at_179) eq1157 f1159 ⟨rfl, N1158⟩ (by decide) (by decide)
                · exact (own_no4 hD hd hj0 hj1 hj2 hj3 hl3).elim
  by_cases hf : (p3 &&& ci1) = ci0
  · refine GoW.step (fun _ k => XS.ifYes X0.here hx rfl (pc0 := 26) (pc' := 35) rfl (hb hby at_26) rfl ((if0 _ _).trans (teq hf).1) (by decide) (by decide) k) ?_
    show GoW p e below s _ _ _ s₁ (mkF m 35 #[vi p1, vi p2, vi p3, vi p4, vi ar, vi dp, .unset, .unset, .unset, .unset, .unset, .unset, .unset] [])
    obtain ⟨T112, X112, e112, st112⟩ := getS2 X0 hx hZ hown (host := "") (Or.inl (tw1 hw)) Via.refl e0 (Z_S_CHEAP.ext O0.2) (g := (mkF m 35 #[vi p1, vi p2, vi p3, vi p4, vi ar, vi dp, .unset, .unset, .unset, .unset, .unset, .unset, .unset] [])) rfl (hb hby at_35)
    refine GoW.step (fun _ k => st112 _ k) ?_
    show GoW p e below s _ _ _ T112 (mkF m 38 #[vi p1, vi p2, vi p3, vi p4, vi ar, vi dp, .unset, .unset, .unset, .unset, .unset, .unset, .unset] [(.ref hc)])
    exact J1 _ _ X112 e112 N0 hc ci3 (Or.inr ⟨ne_hg_hc, rfl⟩)
  · refine GoW.step (fun _ k => XS.ifNo X0.here hx rfl (hb hby at_26) rfl ((if0 _ _).trans (feq hf).1) k) ?_
    show GoW p e below s _ _ _ s₁ (mkF m 29 #[vi p1, vi p2, vi p3, vi p4, vi ar, vi dp, .unset, .unset, .unset, .unset, .unset, .unset, .unset] [])
    obtain ⟨T111, X111, e111, st111⟩ := getS2 X0 hx hZ hown (host := "") (Or.inl (tw266 hw)) Via.refl e0 (Z_S_GOOD.ext O0.2) (g := (mkF m 29 #[vi p1, vi p2, vi p3, vi p4, vi ar, vi dp, .unset, .unset, .unset, .unset, .unset, .unset, .unset] [])) rfl (hb hby at_29)
    refine GoW.step (fun _ k => st111 _ (XS.goto X111.here hx rfl (pc0 := 32) (pc' := 38) rfl (hb hby at_32) (by decide) (by decide) k)) ?_
    show GoW p e below s _ _ _ T111 (mkF m 38 #[vi p1, vi p2, vi p3, vi p4, vi ar, vi dp, .unset, .unset, .unset, .unset, .unset, .unset, .unset] [(.ref hg)])
    exact J1 _ _ X111 e111 N0 hg ci2 (Or.inl ⟨rfl, rfl⟩)

set_option maxRecDepth 65536 in
set_option maxHeartbeats 40000000 in
theorem comes_1 {Post : Tables → Env → Array Value → State → Outcome → State → Prop} (hpost : ∀ tb e args s v u, (limb_1_1.after args s (.returned v) u = true ∧ limb_1_2.after args s (.returned v) u = true ∧ True) → ReturnedEndW s (.returned v) u (Jvm.fieldLocs frame_1_writes args s ++ Jvm.arrayLocs frame_1_arrays args s ++ Jvm.staticLocs frame_1_statics s) 32 1152 → Post tb e args s (.returned v) u) :
    ArmFor flags0 classFile x code maxLocals ret World_1 tables_1 room_1 Calls_1 rest_1 Pre_1 Post := by
  intro l hfl _ _ p e ha hc hk s m args below hf hA hF happ hP
  obtain ⟨hcalls, hrest, hpre⟩ := hP
  obtain ⟨-, -, -, hnamed, -, -, -, hat⟩ := (Spec.applies_iff hf).mp happ
  obtain ⟨hg, hn⟩ := and_e (Cond.before_iff.mp (show (Jvm.Cond.and given_1 narrow_1).before args s = true from hpre))
  obtain ⟨gv1, gv2⟩ := and_e hg
  obtain ⟨gv3, gv4⟩ := and_e gv2
  obtain ⟨gv5, gv6⟩ := and_e gv4
  obtain ⟨gv7, gv8⟩ := and_e gv6
  obtain ⟨w0, w1, w2, w3, rfl⟩ : ∃ w0 w1 w2 w3 : Value, args = #[w0, w1, w2, w3] := by
    have hs : args.size = 4 := by simpa [Cond.value, given_1] using gv1
    obtain ⟨L⟩ := args
    match L, hs with
    | [w0, w1, w2, w3], _ => exact ⟨w0, w1, w2, w3, rfl⟩
  have hw := fun d (hd : d ∈ tables_1) => atoms_spec (ws := Jvm.Cond.code x code maxLocals ret :: tables_1) hat d (List.mem_cons_of_mem _ hd)
  have hfit : Fit s := fun {y c} hc i hi => by
    obtain ⟨ha, rfl⟩ := Array.getElem?_eq_some_iff.mp hc
    have q := List.all_eq_true.mp ((Array.all_eq_true_iff_forall_mem.mp hF) _ (Array.getElem_mem ha)) i (List.mem_range.mpr hi)
    simpa [Array.getElem?_eq_getElem hi] using q
  obtain ⟨i0, ei0⟩ := is_v gv3
  obtain rfl : w0 = (.int i0) := Option.some.inj ei0
  obtain ⟨i1, ei1⟩ := is_v gv5
  obtain rfl : w1 = (.int i1) := Option.some.inj ei1
  obtain ⟨i2, ei2⟩ := is_v gv7
  obtain rfl : w2 = (.int i2) := Option.some.inj ei2
  obtain ⟨i3, ei3⟩ := is_v gv8
  obtain rfl : w3 = (.int i3) := Option.some.inj ei3
  obtain ⟨hsets, hown0⟩ := atoms_of _ (rest_1_c_eq ▸ (show rest_1_c.before _ s = true from hrest))
  obtain ⟨a_em, v_em⟩ := exa_v (Cond.before_iff.mp (hsets _ (List.mem_of_getElem? (i := 2) rfl)))
  have Z_S_EMPTY := Sta.start v_em (Or.inl (hsets _ (List.mem_of_getElem? (i := 1) rfl)))
  have Z_E_em := Exa.start v_em (Cond.before_iff.mp (hsets _ (List.mem_of_getElem? (i := 2) rfl)))
  obtain ⟨hn1, hn2⟩ := and_e hn
  obtain ⟨hn3, hn4⟩ := and_e hn2
  obtain ⟨hn5, hn6⟩ := and_e hn4
  obtain ⟨hn7, hn8⟩ := and_e hn6
  obtain ⟨hn9, hn10⟩ := and_e hn8
  obtain ⟨hn11, hn12⟩ := and_e hn10
  obtain ⟨hn13, hn14⟩ := and_e hn12
  obtain ⟨hn15, hn16⟩ := and_e hn14
  obtain ⟨hn17, hn18⟩ := and_e hn16
  obtain ⟨hn19, hn20⟩ := and_e hn18
  obtain ⟨hn21, hn22⟩ := and_e hn20
  obtain ⟨hn23, hn24⟩ := and_e hn22
  obtain ⟨hn25, hn26⟩ := and_e hn24
  obtain ⟨hn27, hn28⟩ := and_e hn26
  obtain ⟨hn29, hn30⟩ := and_e hn28
  obtain ⟨hn31, hn32⟩ := and_e hn30
  obtain ⟨hn33, hn34⟩ := and_e hn32
  obtain ⟨hn35, hn36⟩ := and_e hn34
  obtain ⟨hn37, hn38⟩ := and_e hn36
  obtain ⟨hn39, hn40⟩ := and_e hn38
  obtain ⟨hn41, hn42⟩ := and_e hn40
  obtain ⟨hn43, hn44⟩ := and_e hn42
  obtain ⟨hn45, hn46⟩ := and_e hn44
  obtain ⟨hn47, hn48⟩ := and_e hn46
  obtain ⟨hn49, hn50⟩ := and_e hn48
  obtain ⟨hn51, hn52⟩ := and_e hn50
  obtain ⟨hn53, hn54⟩ := and_e hn52
  obtain ⟨hn55, hn56⟩ := and_e hn54
  obtain ⟨hn57, hn58⟩ := and_e hn56
  obtain ⟨hn59, hn60⟩ := and_e hn58
  obtain ⟨hn61, hn62⟩ := and_e hn60
  obtain ⟨hn63, hn64⟩ := and_e hn62
  obtain ⟨hn65, hn66⟩ := and_e hn64
  obtain ⟨hn67, hn68⟩ := and_e hn66
  obtain ⟨hn69, hn70⟩ := and_e hn68
  obtain ⟨hn71, hn72⟩ := and_e hn70
  obtain ⟨hn73, hn74⟩ := and_e hn72
  obtain ⟨hn75, hn76⟩ := and_e hn74
  obtain ⟨hn77, hn78⟩ := and_e hn76
  obtain ⟨hn79, hn80⟩ := and_e hn78
  obtain ⟨hn81, hn82⟩ := and_e hn80
  obtain ⟨hn83, hn84⟩ := and_e hn82
  obtain ⟨hn85, hn86⟩ := and_e hn84
  obtain ⟨hn87, hn88⟩ := and_e hn86
  obtain ⟨hn89, hn90⟩ := and_e hn88
  obtain ⟨hn91, hn92⟩ := and_e hn90
  obtain ⟨hn93, hn94⟩ := and_e hn92
  obtain ⟨hn95, hn96⟩ := and_e hn94
  obtain ⟨hn97, hn98⟩ := and_e hn96
  obtain ⟨hn99, hn100⟩ := and_e hn98
  obtain ⟨hn101, hn102⟩ := and_e hn100
  obtain ⟨hn103, hn104⟩ := and_e hn102
  obtain ⟨hn105, hn106⟩ := and_e hn104
  obtain ⟨hn107, hn108⟩ := and_e hn106
  obtain ⟨hn109, hn110⟩ := and_e hn108
  obtain ⟨hn111, hn112⟩ := and_e hn110
  obtain ⟨hn113, hn114⟩ := and_e hn112
  obtain ⟨hn115, hn116⟩ := and_e hn114
  obtain ⟨_, _, a_m12, r01, r02, r03, r04⟩ := hcalls.1
  have M_m12 : Mir s xs21 a_m12 := ⟨_, _, r01, r02, r03, r04⟩
  obtain ⟨_, _, a_mal, r11, r12, r13, r14⟩ := hcalls.2.1
  have M_mal : Mir s xs35 a_mal := ⟨_, _, r11, r12, r13, r14⟩
  obtain ⟨_, _, a_moa, r21, r22, r23, r24⟩ := hcalls.2.2.1
  have M_moa : Mir s xs34 a_moa := ⟨_, _, r21, r22, r23, r24⟩
  obtain ⟨a_hc, v_hc⟩ := exa_v hn1
  have Z_S_CHEAP := Sta.start v_hc (Or.inr ⟨(tw2 hw), (tw3 hw)⟩)
  have Z_E_hc := Exa.start v_hc hn1
  obtain ⟨a_li, v_li⟩ := exa_v hn3
  have Z_S_INFLIGHT := Sta.start v_li (Or.inr ⟨(tw57 hw), (tw58 hw)⟩)
  have Z_E_li := Exa.start v_li hn3
  obtain ⟨a_al, v_al⟩ := exa_v hn7
  have Z_S_ALL := Sta.start v_al (Or.inr ⟨(tw54 hw), (tw65 hw)⟩)
  have Z_E_al := Exa.start v_al hn7
  obtain ⟨a_lo, v_lo⟩ := exa_v hn17
  have Z_S_OUTFLIGHT := Sta.start v_lo (Or.inr ⟨(tw57 hw), (tw93 hw)⟩)
  have Z_E_lo := Exa.start v_lo hn17
  obtain ⟨a_hg, v_hg⟩ := exa_v hn25
  have Z_S_GOOD := Sta.start v_hg (Or.inr ⟨(tw2 hw), (tw192 hw)⟩)
  have Z_E_hg := Exa.start v_hg hn25
  obtain ⟨a_lc, v_lc⟩ := exa_v hn31
  have Z_S_CHEAP_HOTEL := Sta.start v_lc (Or.inr ⟨(tw57 hw), (tw194 hw)⟩)
  have Z_E_lc := Exa.start v_lc hn31
  obtain ⟨a_lg, v_lg⟩ := exa_v hn49
  have Z_S_GOOD_HOTEL := Sta.start v_lg (Or.inr ⟨(tw57 hw), (tw268 hw)⟩)
  have Z_E_lg := Exa.start v_lg hn49
  have Z_F_first_li := own_fld hn5 v_li
  have Z_F_ordinal_li := own_fld hn9 v_li
  obtain ⟨a_ea, v_ea⟩ := arr_v hn11
  obtain ⟨cl, Ar⟩ := Arr.start v_ea hn11
  have Z_F_elements_al := Fld.start ((fld_at v_al).symm.trans v_ea)
  have Z_F_first_lo := own_fld hn19 v_lo
  have Z_F_ordinal_lo := own_fld hn21 v_lo
  have Z_F_ordinal_hc := own_fld hn27 v_hc
  have Z_F_ordinal_hg := own_fld hn29 v_hg
  have Z_F_first_lc := own_fld hn33 v_lc
  have Z_F_ordinal_lc := own_fld hn35 v_lc
  have Z_F_first_lg := own_fld hn51 v_lg
  have Z_F_ordinal_lg := own_fld hn53 v_lg
  obtain ⟨hl1, hl2⟩ := own_len hn13 v_ea Ar.1
  have Z_A_ea : Arv s s.heap a_ea cl.cls (.object xs39) ci28 cl.slots.toList .null := own_arv hfit Ar hl1 hl2 (by decide) (own_cln hl1 hl2)
  obtain ⟨a_e0, v_e0⟩ := exa_v hn15
  have l_0 := own_el hn15 v_e0 v_ea Ar.1 (i := 0) (by decide) Z_E_em (by decide)
  obtain ⟨a_e7, v_e7⟩ := exa_v hn23
  have l_7 := own_el hn23 v_e7 v_ea Ar.1 (i := 7) (by decide) Z_E_em (by decide)
  obtain ⟨a_e12, v_e12⟩ := exa_v hn37
  have l_12 := own_el hn37 v_e12 v_ea Ar.1 (i := 12) (by decide) Z_E_em (by decide)
  obtain ⟨a_e13, v_e13⟩ := exa_v hn39
  have l_13 := own_el hn39 v_e13 v_ea Ar.1 (i := 13) (by decide) Z_E_em (by decide)
  obtain ⟨a_e14, v_e14⟩ := exa_v hn41
  have l_14 := own_el hn41 v_e14 v_ea Ar.1 (i := 14) (by decide) Z_E_em (by decide)
  obtain ⟨a_e15, v_e15⟩ := exa_v hn43
  have l_15 := own_el hn43 v_e15 v_ea Ar.1 (i := 15) (by decide) Z_E_em (by decide)
  obtain ⟨a_e2, v_e2⟩ := exa_v hn45
  have l_2 := own_el hn45 v_e2 v_ea Ar.1 (i := 2) (by decide) Z_E_em (by decide)
  obtain ⟨a_e6, v_e6⟩ := exa_v hn47
  have l_6 := own_el hn47 v_e6 v_ea Ar.1 (i := 6) (by decide) Z_E_em (by decide)
  obtain ⟨a_e10, v_e10⟩ := exa_v hn55
  have l_10 := own_el hn55 v_e10 v_ea Ar.1 (i := 10) (by decide) Z_E_em (by decide)
  obtain ⟨a_e9, v_e9⟩ := exa_v hn57
  have l_9 := own_el hn57 v_e9 v_ea Ar.1 (i := 9) (by decide) Z_E_em (by decide)
  obtain ⟨a_e11, v_e11⟩ := exa_v hn61
  have l_11 := own_el hn61 v_e11 v_ea Ar.1 (i := 11) (by decide) Z_E_em (by decide)
  obtain ⟨a_e8, v_e8⟩ := exa_v hn63
  have l_8 := own_el hn63 v_e8 v_ea Ar.1 (i := 8) (by decide) Z_E_em (by decide)
  obtain ⟨a_e1, v_e1⟩ := exa_v hn69
  have l_1 := own_el hn69 v_e1 v_ea Ar.1 (i := 1) (by decide) Z_E_em (by decide)
  obtain ⟨a_e3, v_e3⟩ := exa_v hn73
  have l_3 := own_el hn73 v_e3 v_ea Ar.1 (i := 3) (by decide) Z_E_em (by decide)
  obtain ⟨a_e5, v_e5⟩ := exa_v hn83
  have l_5 := own_el hn83 v_e5 v_ea Ar.1 (i := 5) (by decide) Z_E_em (by decide)
  obtain ⟨a_e4, v_e4⟩ := exa_v hn89
  have l_4 := own_el hn89 v_e4 v_ea Ar.1 (i := 4) (by decide) Z_E_em (by decide)
  have n_10_9 := own_neq hn59 v_e10 v_e9
  have n_10_8 := own_neq hn65 v_e10 v_e8
  have n_11_8 := own_neq hn67 v_e11 v_e8
  have n_8_9 := own_neq hn71 v_e8 v_e9
  have n_13_14 := own_neq hn75 v_e13 v_e14
  have n_12_14 := own_neq hn77 v_e12 v_e14
  have n_13_15 := own_neq hn79 v_e13 v_e15
  have n_14_15 := own_neq hn81 v_e14 v_e15
  have n_12_15 := own_neq hn85 v_e12 v_e15
  have n_12_13 := own_neq hn87 v_e12 v_e13
  have n_10_11 := own_neq hn91 v_e10 v_e11
  have n_11_9 := own_neq hn93 v_e11 v_e9
  have hAll : own_All s cl.slots.toList a_em := own_mkAll (fun i hi => by
      match i, hi with
      | 0, _ => exact ⟨_, l_0⟩
      | 1, _ => exact ⟨_, l_1⟩
      | 2, _ => exact ⟨_, l_2⟩
      | 3, _ => exact ⟨_, l_3⟩
      | 4, _ => exact ⟨_, l_4⟩
      | 5, _ => exact ⟨_, l_5⟩
      | 6, _ => exact ⟨_, l_6⟩
      | 7, _ => exact ⟨_, l_7⟩
      | 8, _ => exact ⟨_, l_8⟩
      | 9, _ => exact ⟨_, l_9⟩
      | 10, _ => exact ⟨_, l_10⟩
      | 11, _ => exact ⟨_, l_11⟩
      | 12, _ => exact ⟨_, l_12⟩
      | 13, _ => exact ⟨_, l_13⟩
      | 14, _ => exact ⟨_, l_14⟩
      | 15, _ => exact ⟨_, l_15⟩
      | (_ + 16), h => exact absurd h (by omega)) l_8.1 l_9.1 l_10.1 l_11.1 l_12.1 l_13.1 l_14.1 l_15.1 n_8_9 n_10_8.symm n_11_8.symm n_10_9.symm n_11_9.symm n_10_11 n_12_13 n_12_14 n_12_15 n_13_14 n_13_15 n_14_15
  have ne_hg_hc : a_hg ≠ a_hc := Fld.ne Z_F_ordinal_hg Z_F_ordinal_hc (by decide)
  obtain ⟨n, o, h1, h2, h3, _, L, rfl, ⟨rfl, N⟩, hq⟩ := rm_law l s _ hw tables_1 i0 i1 i2 i3 a_hg a_hc a_li a_lo a_lg a_lc a_al a_ea a_em a_m12 a_mal a_moa cl.cls cl.slots.toList s.heap s.heap.size (Nat.le_refl _) (Old.start s) Z_S_GOOD Z_S_CHEAP Z_S_INFLIGHT Z_E_li Z_F_first_li Z_F_ordinal_li Z_S_OUTFLIGHT Z_E_lo Z_F_first_lo Z_F_ordinal_lo Z_S_GOOD_HOTEL Z_E_lg Z_F_first_lg Z_F_ordinal_lg Z_S_CHEAP_HOTEL Z_E_lc Z_F_first_lc Z_F_ordinal_lc Z_S_ALL Z_E_al Z_F_elements_al Z_A_ea Z_S_EMPTY Z_E_em ne_hg_hc hAll M_m12 M_mal M_moa p e ha hc hk s m _ below hf ((Spec.applies_iff_loose hf).mp happ).1 ⟨rfl, State.Warmed39.refl s, rfl⟩ trivial
  refine ⟨n, _, h1, h2, h3, hpost _ _ _ _ _ _ ⟨Cond.after_iff.mpr rfl, Cond.after_iff.mpr (eq_i res_at (Term.int_eval (1)) rfl), trivial⟩ ⟨hq.1, hq.2.1, hq.2.2.1, (hq.2.2.2.sift fun y hy => Or.inr (N y hy)).mono (by decide) (by decide)⟩⟩
theorem main_1_1 : Claimed_1_1 := comes_1 fun _ _ _ _ _ _ h hF => ⟨h.1, hF⟩
theorem main_1_2 : Claimed_1_2 := comes_1 fun _ _ _ _ _ _ h hF => ⟨h.2.1, hF⟩
end Jvm.Pilot.@@N@@
namespace Jvm.Pilot.@@N@@
open Jvm Jvm.ClassFile Sem Op Lib Jvm.Free Jvm.Stand Jvm.Pilot.@@N@@.Jvm.D
/-! MADE BY PROGRAM (witnessworld.py) out of the Statement's table words and the real class files: 40 classes; the members and pool entries that the words name. The judged class is class 1, her method 1. -/
namespace start1
open Jvm.ClassFile
def u (s : String) : CpInfo := .utf8 (stringToUtf16 s)
/-- a pool by its gaps: so many unusable entries, then the entry; so many at the end -/
def gap : Nat → List CpInfo → List CpInfo
  | 0, r => r
  | n + 1, r => .unusable :: gap n r
def poolList (es : List (Nat × CpInfo)) (last : Nat) : List CpInfo := es.foldr (fun e r => gap e.1 (e.2 :: r)) (gap last [])
def pool (es : List (Nat × CpInfo)) (last : Nat) : Array CpInfo := ⟨poolList es last⟩
def fileOf (pool : Array CpInfo) (this : Nat) (attrs : Array Attribute := #[]) (ms : Array MethodInfo := #[]) (fl : Nat := 33) (sup : Nat := 0) (ifs : Array Nat := #[]) (fds : Array FieldInfo := #[]) : ClassFile where
  minorVersion := 0
  majorVersion := 65
  constantPool := pool
  accessFlags := fl
  thisClass := this
  superClass := sup
  interfaces := ifs
  fields := fds
  methods := ms
  attributes := attrs
def plain (name : String) (sup : Option ClassId) : Class where
  name := name
  kind := .ordinary
  loader := none
  accessFlags := 33
  super := sup
  interfaces := #[]
  cf := none
  fields := #[]
  methods := #[]
  instanceTypes := #[]
  staticTypes := #[]
  resolved := #[]
  callSites := []
  init := .initialized
  statics := none
  mirror := none

def pool0 : Array CpInfo := pool [(5, u "<init>"), (0, u "()V"), (1, .class_ 10), (1, u "java/lang/Object"), (0, u "getClass"), (0, u "()Ljava/lang/Class;")] 111

def k0c0 : Code := { maxStack := 0, maxLocals := 1, code := object_method_1_code, exceptionTable := #[], attributes := #[] }
def k0m0 : Method := { name := "<init>", desc := "()V", sig := { parameters := [], returnType := none }, accessFlags := 1, code := some k0c0 }
def k0m1 : Method := { name := "getClass", desc := "()Ljava/lang/Class;", sig := { parameters := [], returnType := some (.object "java/lang/Class") }, accessFlags := 273, code := none }
/-- java/lang/Object -/
def k0 : Class := { plain "java/lang/Object" none with
  accessFlags := 33
  interfaces := #[]
  cf := some (fileOf pool0 8 #[] #[{ accessFlags := 1, nameIndex := 5, descriptorIndex := 6, attributes := #[] }, { accessFlags := 273, nameIndex := 11, descriptorIndex := 12, attributes := #[] }] 33 0 #[] #[])
  fields := #[]
  methods := #[k0m0, k0m1]
  instanceTypes := #[]
  staticTypes := #[]
  resolved := Array.replicate 124 none
  statics := none }

def pool1 : Array CpInfo := pool [(2, .class_ 4), (1, u "java/lang/Object"), (0, u "<init>"), (0, u "()V"), (0, .integer 2147483647), (0, .fieldref 9 10), (0, .class_ 11), (0, .nameAndType 12 13), (0, u "com/example/wayfare/wayfare/market/Hotel"), (0, u "GOOD"), (0, u "Lcom/example/wayfare/wayfare/market/Hotel;"), (0, .fieldref 9 15), (0, .nameAndType 16 13), (0, u "CHEAP"), (0, .class_ 18), (0, u "com/example/wayfare/wayfare/market/Trip"), (0, .methodref 17 20), (0, .nameAndType 5 21), (0, u "(IILcom/example/wayfare/wayfare/market/Hotel;)V"), (0, .methodref 17 23), (0, .nameAndType 24 25), (0, u "nightInTown"), (0, u "(I)Z"), (0, .methodref 17 27), (0, .nameAndType 28 29), (0, u "goods"), (0, u "()Ljava/util/List;"), (0, .methodref 31 32), (0, .class_ 33), (0, .nameAndType 34 35), (0, u "com/example/wayfare/wayfare/market/Good"), (0, u "room"), (0, u "(Lcom/example/wayfare/wayfare/market/Hotel;I)Lcom/example/wayfare/wayfare/market/Good;"), (0, .interfaceMethodref 37 38), (0, .class_ 39), (0, .nameAndType 40 41), (0, u "java/util/List"), (0, u "size"), (0, u "()I"), (0, .methodref 43 44), (0, .class_ 45), (0, .nameAndType 46 47), (0, u "com/example/wayfare/wayfare/market/TripNightInTownPinLaw"), (0, u "at"), (0, u "(Ljava/util/List;IILcom/example/wayfare/wayfare/market/Good;)Z"), (0, .interfaceMethodref 37 49), (0, .nameAndType 50 51), (0, u "get"), (0, u "(I)Ljava/lang/Object;"), (2, u "law"), (0, u "(IIII)Z")] 5

def k1m0 : Method := { name := "<init>", desc := "()V", sig := { parameters := [], returnType := none }, accessFlags := 1, code := none }
def k1c1 : Code := { maxStack := 5, maxLocals := 13, code := code, exceptionTable := #[], attributes := #[] }
def k1m1 : Method := { name := "law", desc := "(IIII)Z", sig := { parameters := [.int, .int, .int, .int], returnType := some .boolean }, accessFlags := 9, code := some k1c1 }
def k1c2 : Code := { maxStack := 2, maxLocals := 4, code := method_3_code, exceptionTable := #[], attributes := #[] }
def k1m2 : Method := { name := "at", desc := "(Ljava/util/List;IILcom/example/wayfare/wayfare/market/Good;)Z", sig := { parameters := [(.object "java/util/List"), .int, .int, (.object "com/example/wayfare/wayfare/market/Good")], returnType := some .boolean }, accessFlags := 10, code := some k1c2 }
/-- com/example/wayfare/wayfare/market/TripNightInTownPinLaw -/
def k1 : Class := { plain "com/example/wayfare/wayfare/market/TripNightInTownPinLaw" (some 0) with
  accessFlags := 49
  interfaces := #[]
  cf := some (fileOf pool1 43 #[] #[{ accessFlags := 1, nameIndex := 5, descriptorIndex := 6, attributes := #[] }, { accessFlags := 9, nameIndex := 54, descriptorIndex := 55, attributes := #[] }, { accessFlags := 10, nameIndex := 46, descriptorIndex := 47, attributes := #[] }] 49 2 #[] #[])
  fields := #[]
  methods := #[k1m0, k1m1, k1m2]
  instanceTypes := #[]
  staticTypes := #[]
  resolved := Array.replicate 61 none
  statics := none }

def pool2 : Array CpInfo := pool [(1, .class_ 2), (0, u "java/lang/constant/Constable"), (0, .class_ 4), (0, u "java/lang/Object")] 6

/-- java/lang/constant/Constable -/
def k2 : Class := { plain "java/lang/constant/Constable" (some 0) with
  accessFlags := 1537
  interfaces := #[]
  cf := some (fileOf pool2 1 #[] #[] 1537 3 #[] #[])
  fields := #[]
  methods := #[]
  instanceTypes := #[]
  staticTypes := #[]
  resolved := Array.replicate 11 none
  statics := none }

def pool3 : Array CpInfo := pool [(1, .class_ 2), (0, u "java/lang/Comparable"), (0, .class_ 4), (0, u "java/lang/Object")] 7

/-- java/lang/Comparable -/
def k3 : Class := { plain "java/lang/Comparable" (some 0) with
  accessFlags := 1537
  interfaces := #[]
  cf := some (fileOf pool3 1 #[] #[] 1537 3 #[] #[])
  fields := #[]
  methods := #[]
  instanceTypes := #[]
  staticTypes := #[]
  resolved := Array.replicate 12 none
  statics := none }

def pool4 : Array CpInfo := pool [(1, .class_ 2), (0, u "java/io/Serializable"), (0, .class_ 4), (0, u "java/lang/Object")] 2

/-- java/io/Serializable -/
def k4 : Class := { plain "java/io/Serializable" (some 0) with
  accessFlags := 1537
  interfaces := #[]
  cf := some (fileOf pool4 1 #[] #[] 1537 3 #[] #[])
  fields := #[]
  methods := #[]
  instanceTypes := #[]
  staticTypes := #[]
  resolved := Array.replicate 7 none
  statics := none }

def pool5 : Array CpInfo := pool [(2, .class_ 4), (1, u "java/lang/Enum"), (0, u "name"), (0, u "Ljava/lang/String;"), (0, .fieldref 2 8), (0, .nameAndType 9 10), (0, u "ordinal"), (0, u "I"), (1, .class_ 14), (1, u "java/lang/Object"), (4, u "hash"), (86, .class_ 108), (1, u "java/lang/Enum$EnumDesc"), (2, .class_ 112), (0, u "java/lang/constant/Constable"), (0, .class_ 114), (0, u "java/lang/Comparable"), (0, .class_ 116), (0, u "java/io/Serializable"), (9, u "()I")] 77

def k5c0 : Code := { maxStack := 1, maxLocals := 1, code := jdk_37_method_2_code, exceptionTable := #[], attributes := #[] }
def k5m0 : Method := { name := "ordinal", desc := "()I", sig := { parameters := [], returnType := some .int }, accessFlags := 17, code := some k5c0 }
/-- java/lang/Enum -/
def k5 : Class := { plain "java/lang/Enum" (some 0) with
  accessFlags := 1057
  interfaces := #[2, 3, 4]
  cf := some (fileOf pool5 2 #[.nestMembers #[106]] #[{ accessFlags := 17, nameIndex := 9, descriptorIndex := 126, attributes := #[] }] 1057 12 #[111, 113, 115] #[{ accessFlags := 18, nameIndex := 5, descriptorIndex := 6, attributes := #[] }, { accessFlags := 18, nameIndex := 9, descriptorIndex := 10, attributes := #[] }, { accessFlags := 2, nameIndex := 19, descriptorIndex := 10, attributes := #[] }])
  fields := #[{ name := "name", type := (.object "java/lang/String"), accessFlags := 18, slot := 0, constantValue := 0 }, { name := "ordinal", type := .int, accessFlags := 18, slot := 1, constantValue := 0 }, { name := "hash", type := .int, accessFlags := 2, slot := 2, constantValue := 0 }]
  methods := #[k5m0]
  instanceTypes := #[(.object "java/lang/String"), .int, .int]
  staticTypes := #[]
  resolved := Array.replicate 204 none
  statics := none }

def pool6 : Array CpInfo := pool [(1, .class_ 2), (0, u "com/example/wayfare/wayfare/market/Hotel"), (2, u "GOOD"), (0, u "Lcom/example/wayfare/wayfare/market/Hotel;"), (2, u "CHEAP"), (2, u "$VALUES"), (0, u "[Lcom/example/wayfare/wayfare/market/Hotel;"), (6, .class_ 22), (1, u "java/lang/Enum")] 41

/-- com/example/wayfare/wayfare/market/Hotel -/
def k6 : Class := { plain "com/example/wayfare/wayfare/market/Hotel" (some 5) with
  accessFlags := 16433
  interfaces := #[]
  cf := some (fileOf pool6 1 #[] #[] 16433 20 #[] #[{ accessFlags := 16409, nameIndex := 5, descriptorIndex := 6, attributes := #[] }, { accessFlags := 16409, nameIndex := 9, descriptorIndex := 6, attributes := #[] }, { accessFlags := 4122, nameIndex := 12, descriptorIndex := 13, attributes := #[] }])
  fields := #[{ name := "GOOD", type := (.object "com/example/wayfare/wayfare/market/Hotel"), accessFlags := 16409, slot := 0, constantValue := 0 }, { name := "CHEAP", type := (.object "com/example/wayfare/wayfare/market/Hotel"), accessFlags := 16409, slot := 1, constantValue := 0 }, { name := "$VALUES", type := (.array (.object "com/example/wayfare/wayfare/market/Hotel")), accessFlags := 4122, slot := 2, constantValue := 0 }]
  methods := #[]
  instanceTypes := #[(.object "java/lang/String"), .int, .int]
  staticTypes := #[(.object "com/example/wayfare/wayfare/market/Hotel"), (.object "com/example/wayfare/wayfare/market/Hotel"), (.array (.object "com/example/wayfare/wayfare/market/Hotel"))]
  resolved := Array.replicate 64 none
  statics := some 0 }

def pool7 : Array CpInfo := pool [(1, .methodref 2 3), (0, .class_ 4), (0, .nameAndType 5 6), (0, u "java/lang/Object"), (0, u "<init>"), (0, u "()V"), (0, .class_ 8), (0, u "java/lang/Record")] 13

def k7c0 : Code := { maxStack := 1, maxLocals := 1, code := jdk_30_method_1_code, exceptionTable := #[], attributes := #[] }
def k7m0 : Method := { name := "<init>", desc := "()V", sig := { parameters := [], returnType := none }, accessFlags := 4, code := some k7c0 }
/-- java/lang/Record -/
def k7 : Class := { plain "java/lang/Record" (some 0) with
  accessFlags := 1057
  interfaces := #[]
  cf := some (fileOf pool7 7 #[] #[{ accessFlags := 4, nameIndex := 5, descriptorIndex := 6, attributes := #[] }] 1057 2 #[] #[])
  fields := #[]
  methods := #[k7m0]
  instanceTypes := #[]
  staticTypes := #[]
  resolved := Array.replicate 22 none
  statics := none }

def pool8 : Array CpInfo := pool [(1, .methodref 2 3), (0, .class_ 4), (0, .nameAndType 5 6), (0, u "java/lang/Record"), (0, u "<init>"), (0, u "()V"), (0, .methodref 8 9), (0, .class_ 10), (0, .nameAndType 11 12), (0, u "com/example/wayfare/wayfare/market/Trip"), (0, u "checkDays"), (0, u "(II)V"), (0, .string 14), (0, u "hotel"), (0, .methodref 16 17), (0, .class_ 18), (0, .nameAndType 19 20), (0, u "java/util/Objects"), (0, u "requireNonNull"), (0, u "(Ljava/lang/Object;Ljava/lang/String;)Ljava/lang/Object;"), (0, .fieldref 8 22), (0, .nameAndType 23 24), (0, u "arrival"), (0, u "I"), (0, .fieldref 8 26), (0, .nameAndType 27 24), (0, u "departure"), (0, .fieldref 8 29), (0, .nameAndType 14 30), (0, u "Lcom/example/wayfare/wayfare/market/Hotel;"), (12, .class_ 44), (0, u "java/util/ArrayList"), (9, u "(IILcom/example/wayfare/wayfare/market/Hotel;)V"), (0, .interfaceMethodref 56 57), (0, .class_ 58), (0, .nameAndType 59 60), (0, u "java/util/List"), (0, u "add"), (0, u "(Ljava/lang/Object;)Z"), (0, .methodref 62 63), (0, .class_ 64), (0, .nameAndType 65 66), (0, u "com/example/wayfare/wayfare/market/Good"), (0, u "inflight"), (0, u "(I)Lcom/example/wayfare/wayfare/market/Good;"), (0, .methodref 62 68), (0, .nameAndType 69 66), (0, u "outflight"), (0, .interfaceMethodref 56 71), (0, .nameAndType 72 73), (0, u "of"), (0, u "(Ljava/lang/Object;Ljava/lang/Object;)Ljava/util/List;"), (0, .methodref 43 75), (0, .nameAndType 5 76), (0, u "(Ljava/util/Collection;)V"), (0, .methodref 62 78), (0, .nameAndType 79 80), (0, u "room"), (0, u "(Lcom/example/wayfare/wayfare/market/Hotel;I)Lcom/example/wayfare/wayfare/market/Good;"), (17, u "()Ljava/util/List;"), (4, u "nightInTown"), (0, u "(I)Z"), (0, u "goods")] 36

def k8c0 : Code := { maxStack := 2, maxLocals := 4, code := prog_82_method_1_code, exceptionTable := #[], attributes := #[] }
def k8m0 : Method := { name := "<init>", desc := "(IILcom/example/wayfare/wayfare/market/Hotel;)V", sig := { parameters := [.int, .int, (.object "com/example/wayfare/wayfare/market/Hotel")], returnType := none }, accessFlags := 1, code := some k8c0 }
def k8c1 : Code := { maxStack := 5, maxLocals := 2, code := prog_82_method_2_code, exceptionTable := #[], attributes := #[] }
def k8m1 : Method := { name := "checkDays", desc := "(II)V", sig := { parameters := [.int, .int], returnType := none }, accessFlags := 8, code := some k8c1 }
def k8c2 : Code := { maxStack := 2, maxLocals := 2, code := prog_82_method_4_code, exceptionTable := #[], attributes := #[] }
def k8m2 : Method := { name := "nightInTown", desc := "(I)Z", sig := { parameters := [.int], returnType := some .boolean }, accessFlags := 1, code := some k8c2 }
def k8c3 : Code := { maxStack := 4, maxLocals := 3, code := prog_82_method_5_code, exceptionTable := #[], attributes := #[] }
def k8m3 : Method := { name := "goods", desc := "()Ljava/util/List;", sig := { parameters := [], returnType := some (.object "java/util/List") }, accessFlags := 1, code := some k8c3 }
/-- com/example/wayfare/wayfare/market/Trip -/
def k8 : Class := { plain "com/example/wayfare/wayfare/market/Trip" (some 7) with
  accessFlags := 49
  interfaces := #[]
  cf := some (fileOf pool8 8 #[] #[{ accessFlags := 1, nameIndex := 5, descriptorIndex := 54, attributes := #[] }, { accessFlags := 8, nameIndex := 11, descriptorIndex := 12, attributes := #[] }, { accessFlags := 1, nameIndex := 103, descriptorIndex := 104, attributes := #[] }, { accessFlags := 1, nameIndex := 105, descriptorIndex := 98, attributes := #[] }] 49 2 #[] #[{ accessFlags := 18, nameIndex := 23, descriptorIndex := 24, attributes := #[] }, { accessFlags := 18, nameIndex := 27, descriptorIndex := 24, attributes := #[] }, { accessFlags := 18, nameIndex := 14, descriptorIndex := 30, attributes := #[] }])
  fields := #[{ name := "arrival", type := .int, accessFlags := 18, slot := 0, constantValue := 0 }, { name := "departure", type := .int, accessFlags := 18, slot := 1, constantValue := 0 }, { name := "hotel", type := (.object "com/example/wayfare/wayfare/market/Hotel"), accessFlags := 18, slot := 2, constantValue := 0 }]
  methods := #[k8m0, k8m1, k8m2, k8m3]
  instanceTypes := #[.int, .int, (.object "com/example/wayfare/wayfare/market/Hotel")]
  staticTypes := #[]
  resolved := Array.replicate 142 none
  statics := none }

def pool9 : Array CpInfo := pool [(2, .class_ 4), (1, u "java/lang/CharSequence"), (42, .class_ 48), (0, u "java/lang/CharSequence$1CodePointIterator"), (10, .class_ 60), (0, u "java/lang/CharSequence$1CharIterator"), (5, .class_ 67), (0, u "java/lang/Object")] 63

/-- java/lang/CharSequence -/
def k9 : Class := { plain "java/lang/CharSequence" (some 0) with
  accessFlags := 1537
  interfaces := #[]
  cf := some (fileOf pool9 2 #[.nestMembers #[47, 59]] #[] 1537 66 #[] #[])
  fields := #[]
  methods := #[]
  instanceTypes := #[]
  staticTypes := #[]
  resolved := Array.replicate 131 none
  statics := none }

def pool10 : Array CpInfo := pool [(1, .class_ 2), (0, u "java/lang/constant/ConstantDesc"), (0, .class_ 4), (0, u "java/lang/Object")] 32

/-- java/lang/constant/ConstantDesc -/
def k10 : Class := { plain "java/lang/constant/ConstantDesc" (some 0) with
  accessFlags := 1537
  interfaces := #[]
  cf := some (fileOf pool10 1 #[] #[] 1537 3 #[] #[])
  fields := #[]
  methods := #[]
  instanceTypes := #[]
  staticTypes := #[]
  resolved := Array.replicate 37 none
  statics := none }

def pool11 : Array CpInfo := pool [(2, .class_ 4), (1, u "java/lang/Object"), (0, u "<init>"), (0, u "()V"), (3, .class_ 12), (1, u "java/lang/String"), (0, u "value"), (0, u "[B"), (2, u "coder"), (0, u "B"), (2, u "hash"), (0, u "I"), (2, u "hashIsZero"), (0, u "Z"), (13, u "COMPACT_STRINGS"), (534, .class_ 576), (0, u "java/lang/CharSequence"), (22, u "CASE_INSENSITIVE_ORDER"), (0, u "Ljava/util/Comparator;"), (500, u "serialPersistentFields"), (0, u "[Ljava/io/ObjectStreamField;"), (0, .class_ 1104), (0, u "java/lang/String$CaseInsensitiveComparator"), (1, .class_ 1107), (0, u "java/io/Serializable"), (0, .class_ 1109), (0, u "java/lang/Comparable"), (0, .class_ 1111), (0, u "java/lang/constant/Constable"), (0, .class_ 1113), (0, u "java/lang/constant/ConstantDesc"), (2, u "serialVersionUID"), (0, u "J"), (3, u "REPL"), (0, u "C"), (2, u "LATIN1"), (1, u "UTF16")] 323

def k11m0 : Method := { name := "<init>", desc := "()V", sig := { parameters := [], returnType := none }, accessFlags := 1, code := none }
/-- java/lang/String -/
def k11 : Class := { plain "java/lang/String" (some 0) with
  accessFlags := 49
  interfaces := #[4, 3, 9, 2, 10]
  cf := some (fileOf pool11 10 #[.nestMembers #[1103]] #[{ accessFlags := 1, nameIndex := 5, descriptorIndex := 6, attributes := #[] }] 49 2 #[1106, 1108, 575, 1110, 1112] #[{ accessFlags := 18, nameIndex := 13, descriptorIndex := 14, attributes := #[] }, { accessFlags := 18, nameIndex := 17, descriptorIndex := 18, attributes := #[] }, { accessFlags := 2, nameIndex := 21, descriptorIndex := 22, attributes := #[] }, { accessFlags := 2, nameIndex := 25, descriptorIndex := 26, attributes := #[] }, { accessFlags := 26, nameIndex := 1116, descriptorIndex := 1117, attributes := #[] }, { accessFlags := 24, nameIndex := 40, descriptorIndex := 26, attributes := #[] }, { accessFlags := 26, nameIndex := 1101, descriptorIndex := 1102, attributes := #[] }, { accessFlags := 26, nameIndex := 1121, descriptorIndex := 1122, attributes := #[] }, { accessFlags := 25, nameIndex := 599, descriptorIndex := 600, attributes := #[] }, { accessFlags := 24, nameIndex := 1125, descriptorIndex := 18, attributes := #[] }, { accessFlags := 24, nameIndex := 1127, descriptorIndex := 18, attributes := #[] }])
  fields := #[{ name := "value", type := (.array .byte), accessFlags := 18, slot := 0, constantValue := 0 }, { name := "coder", type := .byte, accessFlags := 18, slot := 1, constantValue := 0 }, { name := "hash", type := .int, accessFlags := 2, slot := 2, constantValue := 0 }, { name := "hashIsZero", type := .boolean, accessFlags := 2, slot := 3, constantValue := 0 }, { name := "serialVersionUID", type := .long, accessFlags := 26, slot := 0, constantValue := 0 }, { name := "COMPACT_STRINGS", type := .boolean, accessFlags := 24, slot := 1, constantValue := 0 }, { name := "serialPersistentFields", type := (.array (.object "java/io/ObjectStreamField")), accessFlags := 26, slot := 2, constantValue := 0 }, { name := "REPL", type := .char, accessFlags := 26, slot := 3, constantValue := 0 }, { name := "CASE_INSENSITIVE_ORDER", type := (.object "java/util/Comparator"), accessFlags := 25, slot := 4, constantValue := 0 }, { name := "LATIN1", type := .byte, accessFlags := 24, slot := 5, constantValue := 0 }, { name := "UTF16", type := .byte, accessFlags := 24, slot := 6, constantValue := 0 }]
  methods := #[k11m0]
  instanceTypes := #[(.array .byte), .byte, .int, .boolean]
  staticTypes := #[.long, .boolean, (.array (.object "java/io/ObjectStreamField")), .char, (.object "java/util/Comparator"), .byte, .byte]
  resolved := Array.replicate 1451 none
  statics := none }

def pool12 : Array CpInfo := pool [(2, .class_ 4), (1, u "java/lang/Object"), (0, u "<init>"), (0, u "()V"), (35, .class_ 44), (1, u "java/util/Objects"), (0, u "requireNonNull"), (0, u "(Ljava/lang/Object;)Ljava/lang/Object;"), (47, u "(Ljava/lang/Object;Ljava/lang/String;)Ljava/lang/Object;"), (10, .methodref 106 107), (0, .class_ 108), (0, .nameAndType 109 110), (0, u "jdk/internal/util/Preconditions"), (0, u "checkIndex"), (0, u "(IILjava/util/function/BiFunction;)I"), (60, u "(II)I")] 12

def k12m0 : Method := { name := "<init>", desc := "()V", sig := { parameters := [], returnType := none }, accessFlags := 2, code := none }
def k12c1 : Code := { maxStack := 2, maxLocals := 1, code := jdk_31_method_10_code, exceptionTable := #[], attributes := #[] }
def k12m1 : Method := { name := "requireNonNull", desc := "(Ljava/lang/Object;)Ljava/lang/Object;", sig := { parameters := [(.object "java/lang/Object")], returnType := some (.object "java/lang/Object") }, accessFlags := 9, code := some k12c1 }
def k12c2 : Code := { maxStack := 3, maxLocals := 2, code := jdk_31_method_11_code, exceptionTable := #[], attributes := #[] }
def k12m2 : Method := { name := "requireNonNull", desc := "(Ljava/lang/Object;Ljava/lang/String;)Ljava/lang/Object;", sig := { parameters := [(.object "java/lang/Object"), (.object "java/lang/String")], returnType := some (.object "java/lang/Object") }, accessFlags := 9, code := some k12c2 }
def k12c3 : Code := { maxStack := 3, maxLocals := 2, code := jdk_31_method_17_code, exceptionTable := #[], attributes := #[] }
def k12m3 : Method := { name := "checkIndex", desc := "(II)I", sig := { parameters := [.int, .int], returnType := some .int }, accessFlags := 9, code := some k12c3 }
/-- java/util/Objects -/
def k12 : Class := { plain "java/util/Objects" (some 0) with
  accessFlags := 49
  interfaces := #[]
  cf := some (fileOf pool12 42 #[] #[{ accessFlags := 2, nameIndex := 5, descriptorIndex := 6, attributes := #[] }, { accessFlags := 9, nameIndex := 45, descriptorIndex := 46, attributes := #[] }, { accessFlags := 9, nameIndex := 45, descriptorIndex := 94, attributes := #[] }, { accessFlags := 9, nameIndex := 109, descriptorIndex := 171, attributes := #[] }] 49 2 #[] #[])
  fields := #[]
  methods := #[k12m0, k12m1, k12m2, k12m3]
  instanceTypes := #[]
  staticTypes := #[]
  resolved := Array.replicate 184 none
  statics := none }

def pool13 : Array CpInfo := pool [(8, .class_ 10), (1, u "java/lang/Iterable"), (24, .class_ 36), (0, u "java/lang/Object")] 25

/-- java/lang/Iterable -/
def k13 : Class := { plain "java/lang/Iterable" (some 0) with
  accessFlags := 1537
  interfaces := #[]
  cf := some (fileOf pool13 8 #[] #[] 1537 35 #[] #[])
  fields := #[]
  methods := #[]
  instanceTypes := #[]
  staticTypes := #[]
  resolved := Array.replicate 62 none
  statics := none }

def pool14 : Array CpInfo := pool [(10, .class_ 12), (1, u "java/util/Collection"), (0, u "toArray"), (46, .class_ 61), (0, u "java/lang/Object"), (0, .class_ 63), (0, u "java/lang/Iterable"), (6, u "()[Ljava/lang/Object;")] 44

def k14m0 : Method := { name := "toArray", desc := "()[Ljava/lang/Object;", sig := { parameters := [], returnType := some (.array (.object "java/lang/Object")) }, accessFlags := 1025, code := none }
/-- java/util/Collection -/
def k14 : Class := { plain "java/util/Collection" (some 0) with
  accessFlags := 1537
  interfaces := #[13]
  cf := some (fileOf pool14 10 #[] #[{ accessFlags := 1025, nameIndex := 13, descriptorIndex := 70, attributes := #[] }] 1537 60 #[62] #[])
  fields := #[]
  methods := #[k14m0]
  instanceTypes := #[]
  staticTypes := #[]
  resolved := Array.replicate 115 none
  statics := none }

def pool15 : Array CpInfo := pool [(1, .methodref 2 3), (0, .class_ 4), (0, .nameAndType 5 6), (0, u "java/lang/Object"), (0, u "<init>"), (0, u "()V"), (1, .class_ 10), (1, u "java/util/AbstractCollection"), (66, .class_ 78), (0, u "java/util/Collection")] 81

def k15c0 : Code := { maxStack := 1, maxLocals := 1, code := jdk_22_method_1_code, exceptionTable := #[], attributes := #[] }
def k15m0 : Method := { name := "<init>", desc := "()V", sig := { parameters := [], returnType := none }, accessFlags := 4, code := some k15c0 }
/-- java/util/AbstractCollection -/
def k15 : Class := { plain "java/util/AbstractCollection" (some 0) with
  accessFlags := 1057
  interfaces := #[14]
  cf := some (fileOf pool15 8 #[] #[{ accessFlags := 4, nameIndex := 5, descriptorIndex := 6, attributes := #[] }] 1057 2 #[77] #[])
  fields := #[]
  methods := #[k15m0]
  instanceTypes := #[]
  staticTypes := #[]
  resolved := Array.replicate 160 none
  statics := none }

def pool16 : Array CpInfo := pool [(8, .class_ 10), (1, u "java/util/SequencedCollection"), (15, .class_ 27), (0, u "java/lang/Object"), (0, .class_ 29), (0, u "java/util/Collection")] 27

/-- java/util/SequencedCollection -/
def k16 : Class := { plain "java/util/SequencedCollection" (some 0) with
  accessFlags := 1537
  interfaces := #[14]
  cf := some (fileOf pool16 8 #[] #[] 1537 26 #[28] #[])
  fields := #[]
  methods := #[]
  instanceTypes := #[]
  staticTypes := #[]
  resolved := Array.replicate 57 none
  statics := none }

def pool17 : Array CpInfo := pool [(8, .class_ 10), (1, u "java/util/List"), (37, u "<init>"), (11, u "add"), (3, u "(Ljava/lang/Object;)Z"), (10, u "get"), (0, u "(I)Ljava/lang/Object;"), (2, u "size"), (0, u "()I"), (7, u "of"), (7, .class_ 97), (0, u "java/util/ImmutableCollections$List12"), (2, .methodref 96 101), (0, .nameAndType 48 102), (0, u "(Ljava/lang/Object;Ljava/lang/Object;)V"), (0, .class_ 104), (0, u "java/lang/Object"), (15, .class_ 121), (0, u "java/util/SequencedCollection"), (79, u "(Ljava/lang/Object;Ljava/lang/Object;)Ljava/util/List;")] 49

def k17m0 : Method := { name := "size", desc := "()I", sig := { parameters := [], returnType := some .int }, accessFlags := 1025, code := none }
def k17m1 : Method := { name := "add", desc := "(Ljava/lang/Object;)Z", sig := { parameters := [(.object "java/lang/Object")], returnType := some .boolean }, accessFlags := 1025, code := none }
def k17m2 : Method := { name := "get", desc := "(I)Ljava/lang/Object;", sig := { parameters := [.int], returnType := some (.object "java/lang/Object") }, accessFlags := 1025, code := none }
def k17c3 : Code := { maxStack := 4, maxLocals := 2, code := jdk_40_method_38_code, exceptionTable := #[], attributes := #[] }
def k17m3 : Method := { name := "of", desc := "(Ljava/lang/Object;Ljava/lang/Object;)Ljava/util/List;", sig := { parameters := [(.object "java/lang/Object"), (.object "java/lang/Object")], returnType := some (.object "java/util/List") }, accessFlags := 9, code := some k17c3 }
/-- java/util/List -/
def k17 : Class := { plain "java/util/List" (some 0) with
  accessFlags := 1537
  interfaces := #[16]
  cf := some (fileOf pool17 8 #[] #[{ accessFlags := 1025, nameIndex := 79, descriptorIndex := 80, attributes := #[] }, { accessFlags := 1025, nameIndex := 60, descriptorIndex := 64, attributes := #[] }, { accessFlags := 1025, nameIndex := 75, descriptorIndex := 76, attributes := #[] }, { accessFlags := 9, nameIndex := 88, descriptorIndex := 201, attributes := #[] }] 1537 103 #[120] #[])
  fields := #[]
  methods := #[k17m0, k17m1, k17m2, k17m3]
  instanceTypes := #[]
  staticTypes := #[]
  resolved := Array.replicate 251 none
  statics := none }

def pool18 : Array CpInfo := pool [(1, .methodref 2 3), (0, .class_ 4), (0, .nameAndType 5 6), (0, u "java/util/AbstractCollection"), (0, u "<init>"), (0, u "()V"), (0, .fieldref 8 9), (0, .class_ 10), (0, .nameAndType 11 12), (0, u "java/util/AbstractList"), (0, u "modCount"), (0, u "I"), (64, .class_ 78), (0, u "java/util/AbstractList$Itr"), (3, .class_ 83), (0, u "java/util/AbstractList$ListItr"), (9, .class_ 94), (0, u "java/util/AbstractList$RandomAccessSubList"), (3, .class_ 99), (0, u "java/util/AbstractList$SubList"), (33, .class_ 134), (0, u "java/util/List"), (73, .class_ 209), (0, u "java/util/AbstractList$SubList$1"), (0, .class_ 211), (0, u "java/util/AbstractList$RandomAccessSpliterator")] 6

def k18c0 : Code := { maxStack := 2, maxLocals := 1, code := jdk_39_method_1_code, exceptionTable := #[], attributes := #[] }
def k18m0 : Method := { name := "<init>", desc := "()V", sig := { parameters := [], returnType := none }, accessFlags := 4, code := some k18c0 }
/-- java/util/AbstractList -/
def k18 : Class := { plain "java/util/AbstractList" (some 15) with
  accessFlags := 1057
  interfaces := #[17]
  cf := some (fileOf pool18 8 #[.nestMembers #[93, 98, 208, 210, 82, 77]] #[{ accessFlags := 4, nameIndex := 5, descriptorIndex := 6, attributes := #[] }] 1057 2 #[133] #[{ accessFlags := 132, nameIndex := 11, descriptorIndex := 12, attributes := #[] }])
  fields := #[{ name := "modCount", type := .int, accessFlags := 132, slot := 0, constantValue := 0 }]
  methods := #[k18m0]
  instanceTypes := #[.int]
  staticTypes := #[]
  resolved := Array.replicate 218 none
  statics := none }

def pool19 : Array CpInfo := pool [(1, .class_ 2), (0, u "java/util/RandomAccess"), (0, .class_ 4), (0, u "java/lang/Object")] 2

/-- java/util/RandomAccess -/
def k19 : Class := { plain "java/util/RandomAccess" (some 0) with
  accessFlags := 1537
  interfaces := #[]
  cf := some (fileOf pool19 1 #[] #[] 1537 3 #[] #[])
  fields := #[]
  methods := #[]
  instanceTypes := #[]
  staticTypes := #[]
  resolved := Array.replicate 7 none
  statics := none }

def pool20 : Array CpInfo := pool [(1, .class_ 2), (0, u "java/lang/Cloneable"), (0, .class_ 4), (0, u "java/lang/Object")] 2

/-- java/lang/Cloneable -/
def k20 : Class := { plain "java/lang/Cloneable" (some 0) with
  accessFlags := 1537
  interfaces := #[]
  cf := some (fileOf pool20 1 #[] #[] 1537 3 #[] #[])
  fields := #[]
  methods := #[]
  instanceTypes := #[]
  staticTypes := #[]
  resolved := Array.replicate 7 none
  statics := none }

def pool21 : Array CpInfo := pool [(1, .methodref 2 3), (0, .class_ 4), (0, .nameAndType 5 6), (0, u "java/util/AbstractList"), (0, u "<init>"), (0, u "()V"), (2, .fieldref 10 11), (0, .class_ 12), (0, .nameAndType 13 14), (0, u "java/util/ArrayList"), (0, u "elementData"), (0, u "[Ljava/lang/Object;"), (2, u "EMPTY_ELEMENTDATA"), (23, u "DEFAULTCAPACITY_EMPTY_ELEMENTDATA"), (0, .interfaceMethodref 43 44), (0, .class_ 45), (0, .nameAndType 46 47), (0, u "java/util/Collection"), (0, u "toArray"), (0, u "()[Ljava/lang/Object;"), (0, .fieldref 10 49), (0, .nameAndType 50 51), (0, u "size"), (0, u "I"), (0, .interfaceMethodref 43 53), (0, .nameAndType 54 55), (0, u "getClass"), (0, u "()Ljava/lang/Class;"), (0, .class_ 14), (0, .methodref 58 59), (0, .class_ 60), (0, .nameAndType 61 62), (0, u "java/util/Arrays"), (0, u "copyOf"), (0, u "([Ljava/lang/Object;ILjava/lang/Class;)[Ljava/lang/Object;"), (0, .fieldref 10 64), (0, .nameAndType 65 51), (0, u "modCount"), (0, .methodref 58 67), (0, .nameAndType 61 68), (0, u "([Ljava/lang/Object;I)[Ljava/lang/Object;"), (0, .methodref 10 70), (0, .nameAndType 71 72), (0, u "grow"), (0, u "(I)[Ljava/lang/Object;"), (0, .methodref 74 75), (0, .class_ 76), (0, .nameAndType 77 78), (0, u "jdk/internal/util/ArraysSupport"), (0, u "newLength"), (0, u "(III)I"), (5, u "(II)I"), (11, u "(Ljava/lang/Object;)Z"), (21, .methodref 119 120), (0, .class_ 121), (0, .nameAndType 122 84), (0, u "java/util/Objects"), (0, u "checkIndex"), (0, .methodref 10 124), (0, .nameAndType 13 125), (0, u "(I)Ljava/lang/Object;"), (3, .methodref 10 130), (0, .nameAndType 71 47), (0, .methodref 10 132), (0, .nameAndType 133 134), (0, u "add"), (0, u "(Ljava/lang/Object;[Ljava/lang/Object;I)V"), (13, .class_ 149), (0, u "java/util/List"), (36, u "()I"), (75, .class_ 263), (0, u "java/util/ArrayList$ListItr"), (3, .class_ 268), (0, u "java/util/ArrayList$Itr"), (7, .class_ 277), (0, u "java/util/ArrayList$SubList"), (12, .class_ 291), (0, u "java/util/ArrayList$ArrayListSpliterator"), (37, .class_ 330), (0, u "java/util/RandomAccess"), (0, .class_ 332), (0, u "java/lang/Cloneable"), (0, .class_ 334), (0, u "java/io/Serializable"), (0, u "serialVersionUID"), (0, u "J"), (3, u "DEFAULT_CAPACITY"), (10, u "(Ljava/util/Collection;)V"), (29, u "get"), (118, .class_ 501), (0, u "java/util/ArrayList$SubList$2"), (0, .class_ 503), (0, u "java/util/ArrayList$SubList$1")] 5

def k21m0 : Method := { name := "<init>", desc := "()V", sig := { parameters := [], returnType := none }, accessFlags := 1, code := none }
def k21c1 : Code := { maxStack := 4, maxLocals := 3, code := jdk_38_method_3_code, exceptionTable := #[], attributes := #[] }
def k21m1 : Method := { name := "<init>", desc := "(Ljava/util/Collection;)V", sig := { parameters := [(.object "java/util/Collection")], returnType := none }, accessFlags := 1, code := some k21c1 }
def k21c2 : Code := { maxStack := 4, maxLocals := 4, code := jdk_38_method_6_code, exceptionTable := #[], attributes := #[] }
def k21m2 : Method := { name := "grow", desc := "(I)[Ljava/lang/Object;", sig := { parameters := [.int], returnType := some (.array (.object "java/lang/Object")) }, accessFlags := 2, code := some k21c2 }
def k21c3 : Code := { maxStack := 3, maxLocals := 1, code := jdk_38_method_7_code, exceptionTable := #[], attributes := #[] }
def k21m3 : Method := { name := "grow", desc := "()[Ljava/lang/Object;", sig := { parameters := [], returnType := some (.array (.object "java/lang/Object")) }, accessFlags := 2, code := some k21c3 }
def k21c4 : Code := { maxStack := 1, maxLocals := 1, code := jdk_38_method_8_code, exceptionTable := #[], attributes := #[] }
def k21m4 : Method := { name := "size", desc := "()I", sig := { parameters := [], returnType := some .int }, accessFlags := 1, code := some k21c4 }
def k21c5 : Code := { maxStack := 2, maxLocals := 2, code := jdk_38_method_18_code, exceptionTable := #[], attributes := #[] }
def k21m5 : Method := { name := "elementData", desc := "(I)Ljava/lang/Object;", sig := { parameters := [.int], returnType := some (.object "java/lang/Object") }, accessFlags := 0, code := some k21c5 }
def k21c6 : Code := { maxStack := 2, maxLocals := 2, code := jdk_38_method_20_code, exceptionTable := #[], attributes := #[] }
def k21m6 : Method := { name := "get", desc := "(I)Ljava/lang/Object;", sig := { parameters := [.int], returnType := some (.object "java/lang/Object") }, accessFlags := 1, code := some k21c6 }
def k21c7 : Code := { maxStack := 3, maxLocals := 4, code := jdk_38_method_24_code, exceptionTable := #[], attributes := #[] }
def k21m7 : Method := { name := "add", desc := "(Ljava/lang/Object;[Ljava/lang/Object;I)V", sig := { parameters := [(.object "java/lang/Object"), (.array (.object "java/lang/Object")), .int], returnType := none }, accessFlags := 2, code := some k21c7 }
def k21c8 : Code := { maxStack := 4, maxLocals := 2, code := jdk_38_method_25_code, exceptionTable := #[], attributes := #[] }
def k21m8 : Method := { name := "add", desc := "(Ljava/lang/Object;)Z", sig := { parameters := [(.object "java/lang/Object")], returnType := some .boolean }, accessFlags := 1, code := some k21c8 }
/-- java/util/ArrayList -/
def k21 : Class := { plain "java/util/ArrayList" (some 18) with
  accessFlags := 33
  interfaces := #[17, 19, 20, 4]
  cf := some (fileOf pool21 10 #[.nestMembers #[290, 276, 500, 502, 262, 267]] #[{ accessFlags := 1, nameIndex := 5, descriptorIndex := 6, attributes := #[] }, { accessFlags := 1, nameIndex := 5, descriptorIndex := 351, attributes := #[] }, { accessFlags := 2, nameIndex := 71, descriptorIndex := 72, attributes := #[] }, { accessFlags := 2, nameIndex := 71, descriptorIndex := 47, attributes := #[] }, { accessFlags := 1, nameIndex := 50, descriptorIndex := 186, attributes := #[] }, { accessFlags := 0, nameIndex := 13, descriptorIndex := 125, attributes := #[] }, { accessFlags := 1, nameIndex := 381, descriptorIndex := 125, attributes := #[] }, { accessFlags := 2, nameIndex := 133, descriptorIndex := 134, attributes := #[] }, { accessFlags := 1, nameIndex := 133, descriptorIndex := 96, attributes := #[] }] 33 2 #[148, 329, 331, 333] #[{ accessFlags := 26, nameIndex := 335, descriptorIndex := 336, attributes := #[] }, { accessFlags := 26, nameIndex := 340, descriptorIndex := 51, attributes := #[] }, { accessFlags := 26, nameIndex := 17, descriptorIndex := 14, attributes := #[] }, { accessFlags := 26, nameIndex := 41, descriptorIndex := 14, attributes := #[] }, { accessFlags := 128, nameIndex := 13, descriptorIndex := 14, attributes := #[] }, { accessFlags := 2, nameIndex := 50, descriptorIndex := 51, attributes := #[] }])
  fields := #[{ name := "serialVersionUID", type := .long, accessFlags := 26, slot := 0, constantValue := 0 }, { name := "DEFAULT_CAPACITY", type := .int, accessFlags := 26, slot := 1, constantValue := 0 }, { name := "EMPTY_ELEMENTDATA", type := (.array (.object "java/lang/Object")), accessFlags := 26, slot := 2, constantValue := 0 }, { name := "DEFAULTCAPACITY_EMPTY_ELEMENTDATA", type := (.array (.object "java/lang/Object")), accessFlags := 26, slot := 3, constantValue := 0 }, { name := "elementData", type := (.array (.object "java/lang/Object")), accessFlags := 128, slot := 1, constantValue := 0 }, { name := "size", type := .int, accessFlags := 2, slot := 2, constantValue := 0 }]
  methods := #[k21m0, k21m1, k21m2, k21m3, k21m4, k21m5, k21m6, k21m7, k21m8]
  instanceTypes := #[.int, (.array (.object "java/lang/Object")), .int]
  staticTypes := #[.long, .int, (.array (.object "java/lang/Object")), (.array (.object "java/lang/Object"))]
  resolved := Array.replicate 509 none
  mirror := some 5
  statics := none }

def pool22 : Array CpInfo := pool [(2, .class_ 4), (1, u "java/lang/Object"), (3, .class_ 10), (1, u "com/example/wayfare/wayfare/market/Good"), (0, u "line"), (0, u "Lcom/example/wayfare/wayfare/market/Good$Line;"), (2, u "day"), (0, u "I"), (0, .fieldref 18 19), (0, .class_ 20), (0, .nameAndType 21 12), (0, u "com/example/wayfare/wayfare/market/Good$Line"), (0, u "INFLIGHT"), (0, .methodref 8 23), (0, .nameAndType 24 25), (0, u "of"), (0, u "(Lcom/example/wayfare/wayfare/market/Good$Line;I)Lcom/example/wayfare/wayfare/market/Good;"), (0, .fieldref 18 27), (0, .nameAndType 28 12), (0, u "OUTFLIGHT"), (0, .fieldref 30 31), (0, .class_ 32), (0, .nameAndType 33 34), (0, u "com/example/wayfare/wayfare/market/Hotel"), (0, u "GOOD"), (0, u "Lcom/example/wayfare/wayfare/market/Hotel;"), (0, .fieldref 18 36), (0, .nameAndType 37 12), (0, u "GOOD_HOTEL"), (0, .fieldref 18 39), (0, .nameAndType 40 12), (0, u "CHEAP_HOTEL"), (1, .class_ 44), (1, u "com/example/wayfare/wayfare/market/Good$1"), (4, .nameAndType 51 52), (1, u "ordinal"), (0, u "()I"), (14, .fieldref 18 68), (0, .nameAndType 69 16), (0, u "first"), (13, .fieldref 8 84), (0, .nameAndType 85 86), (0, u "ALL"), (0, u "Ljava/util/List;"), (0, .methodref 18 49), (0, .interfaceMethodref 89 90), (0, .class_ 91), (0, .nameAndType 92 93), (0, u "java/util/List"), (0, u "get"), (0, u "(I)Ljava/lang/Object;"), (26, u "COUNT"), (19, u "DAYS"), (6, u "inflight"), (0, u "(I)Lcom/example/wayfare/wayfare/market/Good;"), (0, u "outflight"), (0, u "room"), (0, u "(Lcom/example/wayfare/wayfare/market/Hotel;I)Lcom/example/wayfare/wayfare/market/Good;")] 49

def k22c0 : Code := { maxStack := 2, maxLocals := 1, code := prog_50_method_2_code, exceptionTable := #[], attributes := #[] }
def k22m0 : Method := { name := "inflight", desc := "(I)Lcom/example/wayfare/wayfare/market/Good;", sig := { parameters := [.int], returnType := some (.object "com/example/wayfare/wayfare/market/Good") }, accessFlags := 9, code := some k22c0 }
def k22c1 : Code := { maxStack := 2, maxLocals := 1, code := prog_50_method_3_code, exceptionTable := #[], attributes := #[] }
def k22m1 : Method := { name := "outflight", desc := "(I)Lcom/example/wayfare/wayfare/market/Good;", sig := { parameters := [.int], returnType := some (.object "com/example/wayfare/wayfare/market/Good") }, accessFlags := 9, code := some k22c1 }
def k22c2 : Code := { maxStack := 2, maxLocals := 2, code := prog_50_method_4_code, exceptionTable := #[], attributes := #[] }
def k22m2 : Method := { name := "room", desc := "(Lcom/example/wayfare/wayfare/market/Hotel;I)Lcom/example/wayfare/wayfare/market/Good;", sig := { parameters := [(.object "com/example/wayfare/wayfare/market/Hotel"), .int], returnType := some (.object "com/example/wayfare/wayfare/market/Good") }, accessFlags := 9, code := some k22c2 }
def k22c3 : Code := { maxStack := 7, maxLocals := 2, code := prog_50_method_6_code, exceptionTable := #[], attributes := #[] }
def k22m3 : Method := { name := "of", desc := "(Lcom/example/wayfare/wayfare/market/Good$Line;I)Lcom/example/wayfare/wayfare/market/Good;", sig := { parameters := [(.object "com/example/wayfare/wayfare/market/Good$Line"), .int], returnType := some (.object "com/example/wayfare/wayfare/market/Good") }, accessFlags := 10, code := some k22c3 }
/-- com/example/wayfare/wayfare/market/Good -/
def k22 : Class := { plain "com/example/wayfare/wayfare/market/Good" (some 0) with
  accessFlags := 49
  interfaces := #[]
  cf := some (fileOf pool22 8 #[.nestMembers #[42, 18]] #[{ accessFlags := 9, nameIndex := 147, descriptorIndex := 148, attributes := #[] }, { accessFlags := 9, nameIndex := 149, descriptorIndex := 148, attributes := #[] }, { accessFlags := 9, nameIndex := 150, descriptorIndex := 151, attributes := #[] }, { accessFlags := 10, nameIndex := 24, descriptorIndex := 25, attributes := #[] }] 49 2 #[] #[{ accessFlags := 26, nameIndex := 140, descriptorIndex := 16, attributes := #[] }, { accessFlags := 25, nameIndex := 120, descriptorIndex := 16, attributes := #[] }, { accessFlags := 25, nameIndex := 85, descriptorIndex := 86, attributes := #[] }, { accessFlags := 18, nameIndex := 11, descriptorIndex := 12, attributes := #[] }, { accessFlags := 18, nameIndex := 15, descriptorIndex := 16, attributes := #[] }])
  fields := #[{ name := "DAYS", type := .int, accessFlags := 26, slot := 0, constantValue := 0 }, { name := "COUNT", type := .int, accessFlags := 25, slot := 1, constantValue := 0 }, { name := "ALL", type := (.object "java/util/List"), accessFlags := 25, slot := 2, constantValue := 0 }, { name := "line", type := (.object "com/example/wayfare/wayfare/market/Good$Line"), accessFlags := 18, slot := 0, constantValue := 0 }, { name := "day", type := .int, accessFlags := 18, slot := 1, constantValue := 0 }]
  methods := #[k22m0, k22m1, k22m2, k22m3]
  instanceTypes := #[(.object "com/example/wayfare/wayfare/market/Good$Line"), .int]
  staticTypes := #[.int, .int, (.object "java/util/List")]
  resolved := Array.replicate 67 none ++ #[some (.field 23 7)] ++ Array.replicate 133 none
  statics := some 1 }

def pool23 : Array CpInfo := pool [(1, .class_ 2), (0, u "com/example/wayfare/wayfare/market/Good$Line"), (2, u "INFLIGHT"), (0, u "Lcom/example/wayfare/wayfare/market/Good$Line;"), (2, u "OUTFLIGHT"), (2, u "GOOD_HOTEL"), (2, u "CHEAP_HOTEL"), (2, u "ALLIGATOR"), (2, u "AMUSEMENT"), (2, u "MUSEUM"), (2, u "$VALUES"), (0, u "[Lcom/example/wayfare/wayfare/market/Good$Line;"), (6, .class_ 37), (1, u "java/lang/Enum"), (8, u "first"), (0, u "I"), (2, u "description"), (0, u "Ljava/lang/String;"), (41, .class_ 94), (0, u "com/example/wayfare/wayfare/market/Good")] 2

/-- com/example/wayfare/wayfare/market/Good$Line -/
def k23 : Class := { plain "com/example/wayfare/wayfare/market/Good$Line" (some 5) with
  accessFlags := 16432
  interfaces := #[]
  cf := some (fileOf pool23 1 #[.nestHost 93] #[] 16432 35 #[] #[{ accessFlags := 16409, nameIndex := 5, descriptorIndex := 6, attributes := #[] }, { accessFlags := 16409, nameIndex := 9, descriptorIndex := 6, attributes := #[] }, { accessFlags := 16409, nameIndex := 12, descriptorIndex := 6, attributes := #[] }, { accessFlags := 16409, nameIndex := 15, descriptorIndex := 6, attributes := #[] }, { accessFlags := 16409, nameIndex := 18, descriptorIndex := 6, attributes := #[] }, { accessFlags := 16409, nameIndex := 21, descriptorIndex := 6, attributes := #[] }, { accessFlags := 16409, nameIndex := 24, descriptorIndex := 6, attributes := #[] }, { accessFlags := 18, nameIndex := 46, descriptorIndex := 47, attributes := #[] }, { accessFlags := 18, nameIndex := 50, descriptorIndex := 51, attributes := #[] }, { accessFlags := 4122, nameIndex := 27, descriptorIndex := 28, attributes := #[] }])
  fields := #[{ name := "INFLIGHT", type := (.object "com/example/wayfare/wayfare/market/Good$Line"), accessFlags := 16409, slot := 0, constantValue := 0 }, { name := "OUTFLIGHT", type := (.object "com/example/wayfare/wayfare/market/Good$Line"), accessFlags := 16409, slot := 1, constantValue := 0 }, { name := "GOOD_HOTEL", type := (.object "com/example/wayfare/wayfare/market/Good$Line"), accessFlags := 16409, slot := 2, constantValue := 0 }, { name := "CHEAP_HOTEL", type := (.object "com/example/wayfare/wayfare/market/Good$Line"), accessFlags := 16409, slot := 3, constantValue := 0 }, { name := "ALLIGATOR", type := (.object "com/example/wayfare/wayfare/market/Good$Line"), accessFlags := 16409, slot := 4, constantValue := 0 }, { name := "AMUSEMENT", type := (.object "com/example/wayfare/wayfare/market/Good$Line"), accessFlags := 16409, slot := 5, constantValue := 0 }, { name := "MUSEUM", type := (.object "com/example/wayfare/wayfare/market/Good$Line"), accessFlags := 16409, slot := 6, constantValue := 0 }, { name := "first", type := .int, accessFlags := 18, slot := 3, constantValue := 0 }, { name := "description", type := (.object "java/lang/String"), accessFlags := 18, slot := 4, constantValue := 0 }, { name := "$VALUES", type := (.array (.object "com/example/wayfare/wayfare/market/Good$Line")), accessFlags := 4122, slot := 7, constantValue := 0 }]
  methods := #[]
  instanceTypes := #[(.object "java/lang/String"), .int, .int, .int, (.object "java/lang/String")]
  staticTypes := #[(.object "com/example/wayfare/wayfare/market/Good$Line"), (.object "com/example/wayfare/wayfare/market/Good$Line"), (.object "com/example/wayfare/wayfare/market/Good$Line"), (.object "com/example/wayfare/wayfare/market/Good$Line"), (.object "com/example/wayfare/wayfare/market/Good$Line"), (.object "com/example/wayfare/wayfare/market/Good$Line"), (.object "com/example/wayfare/wayfare/market/Good$Line"), (.array (.object "com/example/wayfare/wayfare/market/Good$Line"))]
  resolved := Array.replicate 97 none
  statics := some 2 }

def pool24 : Array CpInfo := pool [(1, .methodref 2 3), (0, .class_ 4), (0, .nameAndType 5 6), (0, u "java/util/AbstractCollection"), (0, u "<init>"), (0, u "()V"), (1, .class_ 10), (1, u "java/util/ImmutableCollections"), (2, .class_ 14), (0, u "java/util/ImmutableCollections$AbstractImmutableCollection")] 41

def k24c0 : Code := { maxStack := 1, maxLocals := 1, code := jdk_47_method_1_code, exceptionTable := #[], attributes := #[] }
def k24m0 : Method := { name := "<init>", desc := "()V", sig := { parameters := [], returnType := none }, accessFlags := 0, code := some k24c0 }
/-- java/util/ImmutableCollections$AbstractImmutableCollection -/
def k24 : Class := { plain "java/util/ImmutableCollections$AbstractImmutableCollection" (some 15) with
  accessFlags := 1056
  interfaces := #[]
  cf := some (fileOf pool24 13 #[.nestHost 8] #[{ accessFlags := 0, nameIndex := 5, descriptorIndex := 6, attributes := #[] }] 1056 2 #[] #[])
  fields := #[]
  methods := #[k24m0]
  instanceTypes := #[]
  staticTypes := #[]
  resolved := Array.replicate 56 none
  statics := none }

def pool25 : Array CpInfo := pool [(1, .methodref 2 3), (0, .class_ 4), (0, .nameAndType 5 6), (0, u "java/util/ImmutableCollections$AbstractImmutableCollection"), (0, u "<init>"), (0, u "()V"), (1, .class_ 10), (1, u "java/util/ImmutableCollections"), (3, .class_ 16), (1, u "java/util/ImmutableCollections$AbstractImmutableList"), (60, .class_ 78), (0, u "java/util/List"), (45, .class_ 125), (0, u "java/util/RandomAccess")] 70

def k25c0 : Code := { maxStack := 1, maxLocals := 1, code := jdk_46_method_1_code, exceptionTable := #[], attributes := #[] }
def k25m0 : Method := { name := "<init>", desc := "()V", sig := { parameters := [], returnType := none }, accessFlags := 0, code := some k25c0 }
/-- java/util/ImmutableCollections$AbstractImmutableList -/
def k25 : Class := { plain "java/util/ImmutableCollections$AbstractImmutableList" (some 24) with
  accessFlags := 1056
  interfaces := #[17, 19]
  cf := some (fileOf pool25 14 #[.nestHost 8] #[{ accessFlags := 0, nameIndex := 5, descriptorIndex := 6, attributes := #[] }] 1056 2 #[77, 124] #[])
  fields := #[]
  methods := #[k25m0]
  instanceTypes := #[]
  staticTypes := #[]
  resolved := Array.replicate 196 none
  statics := none }

def pool26 : Array CpInfo := pool [(2, .class_ 4), (1, u "java/util/ImmutableCollections$AbstractImmutableList"), (2, .fieldref 8 9), (0, .class_ 10), (0, .nameAndType 11 12), (0, u "java/util/ImmutableCollections$ListN"), (0, u "elements"), (0, u "[Ljava/lang/Object;"), (2, u "allowNulls"), (0, u "Z"), (42, .class_ 60), (0, u "java/io/Serializable"), (18, u "get"), (0, u "(I)Ljava/lang/Object;"), (33, .class_ 115), (0, u "java/util/ImmutableCollections")] 3

def k26c0 : Code := { maxStack := 2, maxLocals := 2, code := jdk_45_method_4_code, exceptionTable := #[], attributes := #[] }
def k26m0 : Method := { name := "get", desc := "(I)Ljava/lang/Object;", sig := { parameters := [.int], returnType := some (.object "java/lang/Object") }, accessFlags := 1, code := some k26c0 }
/-- java/util/ImmutableCollections$ListN -/
def k26 : Class := { plain "java/util/ImmutableCollections$ListN" (some 25) with
  accessFlags := 48
  interfaces := #[4]
  cf := some (fileOf pool26 8 #[.nestHost 114] #[{ accessFlags := 1, nameIndex := 79, descriptorIndex := 80, attributes := #[] }] 48 2 #[59] #[{ accessFlags := 18, nameIndex := 11, descriptorIndex := 12, attributes := #[] }, { accessFlags := 18, nameIndex := 15, descriptorIndex := 16, attributes := #[] }])
  fields := #[{ name := "elements", type := (.array (.object "java/lang/Object")), accessFlags := 18, slot := 0, constantValue := 0 }, { name := "allowNulls", type := .boolean, accessFlags := 18, slot := 1, constantValue := 0 }]
  methods := #[k26m0]
  instanceTypes := #[(.array (.object "java/lang/Object")), .boolean]
  staticTypes := #[]
  resolved := Array.replicate 119 none
  statics := none }

def pool27 : Array CpInfo := pool [(1, .methodref 2 3), (0, .class_ 4), (0, .nameAndType 5 6), (0, u "java/util/ImmutableCollections$AbstractImmutableList"), (0, u "<init>"), (0, u "()V"), (0, .methodref 8 9), (0, .class_ 10), (0, .nameAndType 11 12), (0, u "java/util/Objects"), (0, u "requireNonNull"), (0, u "(Ljava/lang/Object;)Ljava/lang/Object;"), (0, .fieldref 14 15), (0, .class_ 16), (0, .nameAndType 17 18), (0, u "java/util/ImmutableCollections$List12"), (0, u "e0"), (0, u "Ljava/lang/Object;"), (0, .fieldref 20 21), (0, .class_ 22), (0, .nameAndType 23 18), (0, u "java/util/ImmutableCollections"), (0, u "EMPTY"), (0, .fieldref 14 25), (0, .nameAndType 26 18), (0, u "e1"), (5, .class_ 34), (1, u "java/lang/Object"), (35, .class_ 71), (0, u "java/io/Serializable"), (13, u "(Ljava/lang/Object;Ljava/lang/Object;)V"), (24, u "toArray"), (0, u "()[Ljava/lang/Object;")] 13

def k27c0 : Code := { maxStack := 2, maxLocals := 3, code := jdk_44_method_2_code, exceptionTable := #[], attributes := #[] }
def k27m0 : Method := { name := "<init>", desc := "(Ljava/lang/Object;Ljava/lang/Object;)V", sig := { parameters := [(.object "java/lang/Object"), (.object "java/lang/Object")], returnType := none }, accessFlags := 0, code := some k27c0 }
def k27c1 : Code := { maxStack := 4, maxLocals := 1, code := jdk_44_method_10_code, exceptionTable := #[], attributes := #[] }
def k27m1 : Method := { name := "toArray", desc := "()[Ljava/lang/Object;", sig := { parameters := [], returnType := some (.array (.object "java/lang/Object")) }, accessFlags := 1, code := some k27c1 }
/-- java/util/ImmutableCollections$List12 -/
def k27 : Class := { plain "java/util/ImmutableCollections$List12" (some 25) with
  accessFlags := 48
  interfaces := #[4]
  cf := some (fileOf pool27 14 #[.nestHost 20] #[{ accessFlags := 0, nameIndex := 5, descriptorIndex := 85, attributes := #[] }, { accessFlags := 1, nameIndex := 110, descriptorIndex := 111, attributes := #[] }] 48 2 #[70] #[{ accessFlags := 18, nameIndex := 17, descriptorIndex := 18, attributes := #[] }, { accessFlags := 18, nameIndex := 26, descriptorIndex := 18, attributes := #[] }])
  fields := #[{ name := "e0", type := (.object "java/lang/Object"), accessFlags := 18, slot := 0, constantValue := 0 }, { name := "e1", type := (.object "java/lang/Object"), accessFlags := 18, slot := 1, constantValue := 0 }]
  methods := #[k27m0, k27m1]
  instanceTypes := #[(.object "java/lang/Object"), (.object "java/lang/Object")]
  staticTypes := #[]
  resolved := Array.replicate 125 none
  mirror := some 4
  statics := none }

def pool28 : Array CpInfo := pool [(2, .class_ 4), (1, u "java/lang/Object"), (0, u "<init>"), (0, u "()V"), (3, .class_ 11), (0, u "java/util/ImmutableCollections$List12"), (0, .class_ 13), (0, u "java/util/ImmutableCollections$ListN"), (3, u "Z"), (29, .class_ 49), (1, u "java/util/ImmutableCollections"), (0, u "$assertionsDisabled"), (5, u "[Ljava/lang/Object;"), (5, u "EMPTY_LIST"), (0, u "Ljava/util/ImmutableCollections$ListN;"), (8, u "EMPTY_LIST_NULLS"), (22, u "SALT32L"), (0, u "J"), (2, u "REVERSE"), (6, u "archivedObjects"), (2, u "EMPTY"), (0, u "Ljava/lang/Object;"), (0, .class_ 112), (0, u "java/util/ImmutableCollections$SetN"), (5, u "EMPTY_SET"), (0, u "Ljava/util/ImmutableCollections$SetN;"), (0, .class_ 121), (0, u "java/util/ImmutableCollections$MapN"), (3, u "EMPTY_MAP"), (0, u "Ljava/util/ImmutableCollections$MapN;"), (4, u "EXPAND_FACTOR"), (0, u "I"), (36, .class_ 170), (0, u "java/util/ImmutableCollections$MapN$MapNIterator"), (0, .class_ 172), (0, u "java/util/ImmutableCollections$MapN$1"), (0, .class_ 174), (0, u "java/util/ImmutableCollections$Map1"), (0, .class_ 176), (0, u "java/util/ImmutableCollections$AbstractImmutableMap"), (0, .class_ 178), (0, u "java/util/ImmutableCollections$SetN$SetNIterator"), (0, .class_ 180), (0, u "java/util/ImmutableCollections$Set12"), (0, .class_ 182), (0, u "java/util/ImmutableCollections$Set12$1"), (0, .class_ 184), (0, u "java/util/ImmutableCollections$AbstractImmutableSet"), (0, .class_ 186), (0, u "java/util/ImmutableCollections$SubList"), (0, .class_ 188), (0, u "java/util/ImmutableCollections$ListItr"), (0, .class_ 190), (0, u "java/util/ImmutableCollections$AbstractImmutableList"), (0, .class_ 192), (0, u "java/util/ImmutableCollections$AbstractImmutableCollection"), (0, .class_ 194), (0, u "java/util/ImmutableCollections$Access"), (0, .class_ 196), (0, u "java/util/ImmutableCollections$Access$1")] 16

def k28m0 : Method := { name := "<init>", desc := "()V", sig := { parameters := [], returnType := none }, accessFlags := 2, code := none }
/-- java/util/ImmutableCollections -/
def k28 : Class := { plain "java/util/ImmutableCollections" (some 0) with
  accessFlags := 32
  interfaces := #[]
  cf := some (fileOf pool28 47 #[.nestMembers #[120, 169, 171, 173, 175, 111, 177, 179, 181, 183, 12, 10, 185, 187, 189, 191, 193, 195]] #[{ accessFlags := 2, nameIndex := 5, descriptorIndex := 6, attributes := #[] }] 32 2 #[] #[{ accessFlags := 26, nameIndex := 95, descriptorIndex := 96, attributes := #[] }, { accessFlags := 26, nameIndex := 99, descriptorIndex := 17, attributes := #[] }, { accessFlags := 10, nameIndex := 106, descriptorIndex := 56, attributes := #[] }, { accessFlags := 26, nameIndex := 109, descriptorIndex := 110, attributes := #[] }, { accessFlags := 24, nameIndex := 62, descriptorIndex := 63, attributes := #[] }, { accessFlags := 24, nameIndex := 72, descriptorIndex := 63, attributes := #[] }, { accessFlags := 24, nameIndex := 118, descriptorIndex := 119, attributes := #[] }, { accessFlags := 24, nameIndex := 125, descriptorIndex := 126, attributes := #[] }, { accessFlags := 24, nameIndex := 131, descriptorIndex := 132, attributes := #[] }, { accessFlags := 4120, nameIndex := 50, descriptorIndex := 17, attributes := #[] }])
  fields := #[{ name := "SALT32L", type := .long, accessFlags := 26, slot := 0, constantValue := 0 }, { name := "REVERSE", type := .boolean, accessFlags := 26, slot := 1, constantValue := 0 }, { name := "archivedObjects", type := (.array (.object "java/lang/Object")), accessFlags := 10, slot := 2, constantValue := 0 }, { name := "EMPTY", type := (.object "java/lang/Object"), accessFlags := 26, slot := 3, constantValue := 0 }, { name := "EMPTY_LIST", type := (.object "java/util/ImmutableCollections$ListN"), accessFlags := 24, slot := 4, constantValue := 0 }, { name := "EMPTY_LIST_NULLS", type := (.object "java/util/ImmutableCollections$ListN"), accessFlags := 24, slot := 5, constantValue := 0 }, { name := "EMPTY_SET", type := (.object "java/util/ImmutableCollections$SetN"), accessFlags := 24, slot := 6, constantValue := 0 }, { name := "EMPTY_MAP", type := (.object "java/util/ImmutableCollections$MapN"), accessFlags := 24, slot := 7, constantValue := 0 }, { name := "EXPAND_FACTOR", type := .int, accessFlags := 24, slot := 8, constantValue := 0 }, { name := "$assertionsDisabled", type := .boolean, accessFlags := 4120, slot := 9, constantValue := 0 }]
  methods := #[k28m0]
  instanceTypes := #[]
  staticTypes := #[.long, .boolean, (.array (.object "java/lang/Object")), (.object "java/lang/Object"), (.object "java/util/ImmutableCollections$ListN"), (.object "java/util/ImmutableCollections$ListN"), (.object "java/util/ImmutableCollections$SetN"), (.object "java/util/ImmutableCollections$MapN"), .int, .boolean]
  resolved := Array.replicate 213 none
  statics := some 3 }

def pool29 : Array CpInfo := pool [(2, .class_ 4), (1, u "java/lang/Object"), (0, u "<init>"), (0, u "()V"), (7, .class_ 16), (1, u "java/util/Arrays"), (57, .class_ 76), (1, u "java/util/Arrays$NaturalOrder"), (9, .methodref 2 87), (0, .nameAndType 88 89), (0, u "getClass"), (0, u "()Ljava/lang/Class;"), (20, .class_ 111), (0, u "[Ljava/lang/Object;"), (1, .class_ 115), (1, u "java/util/Arrays$LegacyMergeSort"), (1, u "Z"), (32, .methodref 151 152), (0, .class_ 153), (0, .nameAndType 154 155), (0, u "java/lang/System"), (0, u "arraycopy"), (0, u "(Ljava/lang/Object;ILjava/lang/Object;II)V"), (144, .methodref 14 301), (0, .nameAndType 302 303), (0, u "copyOf"), (0, u "([Ljava/lang/Object;ILjava/lang/Class;)[Ljava/lang/Object;"), (0, .methodref 305 306), (0, .class_ 307), (0, .nameAndType 308 309), (0, u "java/lang/Math"), (0, u "min"), (0, u "(II)I"), (65, .class_ 376), (0, u "java/util/Arrays$ArrayList"), (68, u "$assertionsDisabled"), (269, u "MIN_ARRAY_SORT_GRAN"), (0, u "I"), (2, u "INSERTIONSORT_THRESHOLD"), (140, u "([Ljava/lang/Object;I)[Ljava/lang/Object;"), (114, .class_ 976), (0, u "java/util/Arrays$ArrayItr")] 52

def k29m0 : Method := { name := "<init>", desc := "()V", sig := { parameters := [], returnType := none }, accessFlags := 2, code := none }
def k29c1 : Code := { maxStack := 3, maxLocals := 2, code := jdk_65_method_119_code, exceptionTable := #[], attributes := #[] }
def k29m1 : Method := { name := "copyOf", desc := "([Ljava/lang/Object;I)[Ljava/lang/Object;", sig := { parameters := [(.array (.object "java/lang/Object")), .int], returnType := some (.array (.object "java/lang/Object")) }, accessFlags := 9, code := some k29c1 }
def k29c2 : Code := { maxStack := 6, maxLocals := 4, code := jdk_65_method_120_code, exceptionTable := #[], attributes := #[] }
def k29m2 : Method := { name := "copyOf", desc := "([Ljava/lang/Object;ILjava/lang/Class;)[Ljava/lang/Object;", sig := { parameters := [(.array (.object "java/lang/Object")), .int, (.object "java/lang/Class")], returnType := some (.array (.object "java/lang/Object")) }, accessFlags := 9, code := some k29c2 }
/-- java/util/Arrays -/
def k29 : Class := { plain "java/util/Arrays" (some 0) with
  accessFlags := 49
  interfaces := #[]
  cf := some (fileOf pool29 14 #[.nestMembers #[975, 375, 113, 74]] #[{ accessFlags := 2, nameIndex := 5, descriptorIndex := 6, attributes := #[] }, { accessFlags := 9, nameIndex := 302, descriptorIndex := 860, attributes := #[] }, { accessFlags := 9, nameIndex := 302, descriptorIndex := 303, attributes := #[] }] 49 2 #[] #[{ accessFlags := 26, nameIndex := 715, descriptorIndex := 716, attributes := #[] }, { accessFlags := 26, nameIndex := 719, descriptorIndex := 716, attributes := #[] }, { accessFlags := 4120, nameIndex := 445, descriptorIndex := 117, attributes := #[] }])
  fields := #[{ name := "MIN_ARRAY_SORT_GRAN", type := .int, accessFlags := 26, slot := 0, constantValue := 0 }, { name := "INSERTIONSORT_THRESHOLD", type := .int, accessFlags := 26, slot := 1, constantValue := 0 }, { name := "$assertionsDisabled", type := .boolean, accessFlags := 4120, slot := 2, constantValue := 0 }]
  methods := #[k29m0, k29m1, k29m2]
  instanceTypes := #[]
  staticTypes := #[.int, .int, .boolean]
  resolved := Array.replicate 1029 none
  statics := none }

def pool30 : Array CpInfo := pool [(1, .class_ 2), (0, u "java/lang/Math"), (1, .class_ 6), (1, u "java/lang/Object"), (0, u "<init>"), (0, u "()V"), (89, .class_ 100), (1, u "java/lang/Math$RandomNumberGeneratorHolder"), (71, u "negativeZeroFloatBits"), (0, u "J"), (2, u "negativeZeroDoubleBits"), (21, u "max"), (2, u "min"), (43, u "$assertionsDisabled"), (0, u "Z"), (88, u "(II)I"), (2, u "twoToTheDoubleScaleDown"), (0, u "D"), (4, u "twoToTheDoubleScaleUp"), (9, u "E"), (3, u "PI"), (2, u "TAU"), (2, u "DEGREES_TO_RADIANS"), (0, u "RADIANS_TO_DEGREES")] 94

def k30m0 : Method := { name := "<init>", desc := "()V", sig := { parameters := [], returnType := none }, accessFlags := 2, code := none }
def k30c1 : Code := { maxStack := 2, maxLocals := 2, code := jdk_29_method_65_code, exceptionTable := #[], attributes := #[] }
def k30m1 : Method := { name := "max", desc := "(II)I", sig := { parameters := [.int, .int], returnType := some .int }, accessFlags := 9, code := some k30c1 }
def k30c2 : Code := { maxStack := 2, maxLocals := 2, code := jdk_29_method_69_code, exceptionTable := #[], attributes := #[] }
def k30m2 : Method := { name := "min", desc := "(II)I", sig := { parameters := [.int, .int], returnType := some .int }, accessFlags := 9, code := some k30c2 }
/-- java/lang/Math -/
def k30 : Class := { plain "java/lang/Math" (some 0) with
  accessFlags := 49
  interfaces := #[]
  cf := some (fileOf pool30 1 #[.nestMembers #[98]] #[{ accessFlags := 2, nameIndex := 7, descriptorIndex := 8, attributes := #[] }, { accessFlags := 9, nameIndex := 198, descriptorIndex := 335, attributes := #[] }, { accessFlags := 9, nameIndex := 201, descriptorIndex := 335, attributes := #[] }] 49 4 #[] #[{ accessFlags := 25, nameIndex := 354, descriptorIndex := 339, attributes := #[] }, { accessFlags := 25, nameIndex := 358, descriptorIndex := 339, attributes := #[] }, { accessFlags := 25, nameIndex := 361, descriptorIndex := 339, attributes := #[] }, { accessFlags := 26, nameIndex := 364, descriptorIndex := 339, attributes := #[] }, { accessFlags := 26, nameIndex := 365, descriptorIndex := 339, attributes := #[] }, { accessFlags := 26, nameIndex := 172, descriptorIndex := 173, attributes := #[] }, { accessFlags := 26, nameIndex := 176, descriptorIndex := 173, attributes := #[] }, { accessFlags := 8, nameIndex := 344, descriptorIndex := 339, attributes := #[] }, { accessFlags := 8, nameIndex := 338, descriptorIndex := 339, attributes := #[] }, { accessFlags := 4120, nameIndex := 245, descriptorIndex := 246, attributes := #[] }])
  fields := #[{ name := "E", type := .double, accessFlags := 25, slot := 0, constantValue := 0 }, { name := "PI", type := .double, accessFlags := 25, slot := 1, constantValue := 0 }, { name := "TAU", type := .double, accessFlags := 25, slot := 2, constantValue := 0 }, { name := "DEGREES_TO_RADIANS", type := .double, accessFlags := 26, slot := 3, constantValue := 0 }, { name := "RADIANS_TO_DEGREES", type := .double, accessFlags := 26, slot := 4, constantValue := 0 }, { name := "negativeZeroFloatBits", type := .long, accessFlags := 26, slot := 5, constantValue := 0 }, { name := "negativeZeroDoubleBits", type := .long, accessFlags := 26, slot := 6, constantValue := 0 }, { name := "twoToTheDoubleScaleUp", type := .double, accessFlags := 8, slot := 7, constantValue := 0 }, { name := "twoToTheDoubleScaleDown", type := .double, accessFlags := 8, slot := 8, constantValue := 0 }, { name := "$assertionsDisabled", type := .boolean, accessFlags := 4120, slot := 9, constantValue := 0 }]
  methods := #[k30m0, k30m1, k30m2]
  instanceTypes := #[]
  staticTypes := #[.double, .double, .double, .double, .double, .long, .long, .double, .double, .boolean]
  resolved := Array.replicate 460 none
  statics := none }

def pool31 : Array CpInfo := pool [(2, .class_ 4), (1, u "java/lang/Object"), (0, u "<init>"), (0, u "()V"), (1, .class_ 10), (1, u "java/lang/System"), (0, u "allowSecurityManager"), (0, u "I"), (16, u "cons"), (0, u "Ljava/io/Console;"), (77, .class_ 110), (1, u "java/lang/System$CallersHolder"), (43, u "initialErrStream"), (0, u "Ljava/io/PrintStream;"), (19, u "security"), (0, u "Ljava/lang/SecurityManager;"), (31, .class_ 209), (0, u "java/lang/System$1"), (7, u "props"), (0, u "Ljava/util/Properties;"), (2, u "lineSeparator"), (0, u "Ljava/lang/String;"), (96, .class_ 321), (1, u "java/lang/System$LoggerFinder"), (5, .class_ 328), (0, u "java/lang/System$Logger"), (67, u "err"), (2, u "out"), (91, u "notSupportedJnuEncoding"), (15, u "in"), (17, u "initialIn"), (0, u "Ljava/io/InputStream;"), (35, u "bootLayer"), (0, u "Ljava/lang/ModuleLayer;"), (99, .class_ 664), (0, u "java/lang/System$2"), (9, u "NEVER"), (2, u "MAYBE"), (49, u "arraycopy"), (0, u "(Ljava/lang/Object;ILjava/lang/Object;II)V"), (72, .class_ 802), (0, u "java/lang/System$Logger$Level")] 31

def k31m0 : Method := { name := "<init>", desc := "()V", sig := { parameters := [], returnType := none }, accessFlags := 2, code := none }
def k31m1 : Method := { name := "arraycopy", desc := "(Ljava/lang/Object;ILjava/lang/Object;II)V", sig := { parameters := [(.object "java/lang/Object"), .int, (.object "java/lang/Object"), .int, .int], returnType := none }, accessFlags := 265, code := none }
/-- java/lang/System -/
def k31 : Class := { plain "java/lang/System" (some 0) with
  accessFlags := 49
  interfaces := #[]
  cf := some (fileOf pool31 8 #[.nestMembers #[319, 327, 801, 108, 663, 208]] #[{ accessFlags := 2, nameIndex := 5, descriptorIndex := 6, attributes := #[] }, { accessFlags := 265, nameIndex := 727, descriptorIndex := 728, attributes := #[] }] 49 2 #[] #[{ accessFlags := 25, nameIndex := 507, descriptorIndex := 526, attributes := #[] }, { accessFlags := 25, nameIndex := 399, descriptorIndex := 155, attributes := #[] }, { accessFlags := 25, nameIndex := 396, descriptorIndex := 155, attributes := #[] }, { accessFlags := 10, nameIndex := 525, descriptorIndex := 526, attributes := #[] }, { accessFlags := 26, nameIndex := 674, descriptorIndex := 12, attributes := #[] }, { accessFlags := 26, nameIndex := 677, descriptorIndex := 12, attributes := #[] }, { accessFlags := 10, nameIndex := 11, descriptorIndex := 12, attributes := #[] }, { accessFlags := 74, nameIndex := 175, descriptorIndex := 176, attributes := #[] }, { accessFlags := 10, nameIndex := 491, descriptorIndex := 222, attributes := #[] }, { accessFlags := 74, nameIndex := 29, descriptorIndex := 30, attributes := #[] }, { accessFlags := 74, nameIndex := 154, descriptorIndex := 155, attributes := #[] }, { accessFlags := 10, nameIndex := 217, descriptorIndex := 218, attributes := #[] }, { accessFlags := 10, nameIndex := 221, descriptorIndex := 222, attributes := #[] }, { accessFlags := 8, nameIndex := 562, descriptorIndex := 563, attributes := #[] }])
  fields := #[{ name := "in", type := (.object "java/io/InputStream"), accessFlags := 25, slot := 0, constantValue := 0 }, { name := "out", type := (.object "java/io/PrintStream"), accessFlags := 25, slot := 1, constantValue := 0 }, { name := "err", type := (.object "java/io/PrintStream"), accessFlags := 25, slot := 2, constantValue := 0 }, { name := "initialIn", type := (.object "java/io/InputStream"), accessFlags := 10, slot := 3, constantValue := 0 }, { name := "NEVER", type := .int, accessFlags := 26, slot := 4, constantValue := 0 }, { name := "MAYBE", type := .int, accessFlags := 26, slot := 5, constantValue := 0 }, { name := "allowSecurityManager", type := .int, accessFlags := 10, slot := 6, constantValue := 0 }, { name := "security", type := (.object "java/lang/SecurityManager"), accessFlags := 74, slot := 7, constantValue := 0 }, { name := "notSupportedJnuEncoding", type := (.object "java/lang/String"), accessFlags := 10, slot := 8, constantValue := 0 }, { name := "cons", type := (.object "java/io/Console"), accessFlags := 74, slot := 9, constantValue := 0 }, { name := "initialErrStream", type := (.object "java/io/PrintStream"), accessFlags := 74, slot := 10, constantValue := 0 }, { name := "props", type := (.object "java/util/Properties"), accessFlags := 10, slot := 11, constantValue := 0 }, { name := "lineSeparator", type := (.object "java/lang/String"), accessFlags := 10, slot := 12, constantValue := 0 }, { name := "bootLayer", type := (.object "java/lang/ModuleLayer"), accessFlags := 8, slot := 13, constantValue := 0 }]
  methods := #[k31m0, k31m1]
  instanceTypes := #[]
  staticTypes := #[(.object "java/io/InputStream"), (.object "java/io/PrintStream"), (.object "java/io/PrintStream"), (.object "java/io/InputStream"), .int, .int, .int, (.object "java/lang/SecurityManager"), (.object "java/lang/String"), (.object "java/io/Console"), (.object "java/io/PrintStream"), (.object "java/util/Properties"), (.object "java/lang/String"), (.object "java/lang/ModuleLayer")]
  resolved := Array.replicate 834 none
  statics := none }

def pool32 : Array CpInfo := pool [(9, u "<init>"), (6, .class_ 18), (1, u "java/lang/Object"), (0, u "()V"), (1, .class_ 23), (1, u "jdk/internal/util/ArraysSupport"), (0, u "LOG2_ARRAY_LONG_INDEX_SCALE"), (0, u "I"), (2, u "U"), (0, u "Ljdk/internal/misc/Unsafe;"), (8, u "BIG_ENDIAN"), (0, u "Z"), (8, u "LOG2_BYTE_BIT_SIZE"), (4, u "LOG2_ARRAY_INT_INDEX_SCALE"), (54, u "JLA"), (0, u "Ljdk/internal/access/JavaLangAccess;"), (11, u "LOG2_ARRAY_BOOLEAN_INDEX_SCALE"), (9, u "LOG2_ARRAY_BYTE_INDEX_SCALE"), (5, u "LOG2_ARRAY_CHAR_INDEX_SCALE"), (5, u "LOG2_ARRAY_SHORT_INDEX_SCALE"), (18, u "LOG2_ARRAY_FLOAT_INDEX_SCALE"), (24, u "LOG2_ARRAY_DOUBLE_INDEX_SCALE"), (6, .methodref 195 196), (0, .class_ 197), (0, .nameAndType 198 199), (0, u "java/lang/Math"), (0, u "max"), (0, u "(II)I"), (0, .integer 2147483639), (76, u "T_BOOLEAN"), (2, u "T_CHAR"), (1, u "T_FLOAT"), (1, u "T_DOUBLE"), (1, u "T_BYTE"), (1, u "T_SHORT"), (1, u "T_INT"), (1, u "T_LONG"), (1, u "SOFT_MAX_ARRAY_LENGTH"), (56, u "newLength"), (0, u "(III)I")] 25

def k32m0 : Method := { name := "<init>", desc := "()V", sig := { parameters := [], returnType := none }, accessFlags := 2, code := none }
def k32c1 : Code := { maxStack := 3, maxLocals := 4, code := jdk_48_method_27_code, exceptionTable := #[], attributes := #[] }
def k32m1 : Method := { name := "newLength", desc := "(III)I", sig := { parameters := [.int, .int, .int], returnType := some .int }, accessFlags := 9, code := some k32c1 }
/-- jdk/internal/util/ArraysSupport -/
def k32 : Class := { plain "jdk/internal/util/ArraysSupport" (some 0) with
  accessFlags := 33
  interfaces := #[]
  cf := some (fileOf pool32 21 #[] #[{ accessFlags := 2, nameIndex := 9, descriptorIndex := 19, attributes := #[] }, { accessFlags := 9, nameIndex := 351, descriptorIndex := 352, attributes := #[] }] 33 16 #[] #[{ accessFlags := 24, nameIndex := 28, descriptorIndex := 29, attributes := #[] }, { accessFlags := 26, nameIndex := 38, descriptorIndex := 39, attributes := #[] }, { accessFlags := 25, nameIndex := 121, descriptorIndex := 25, attributes := #[] }, { accessFlags := 25, nameIndex := 131, descriptorIndex := 25, attributes := #[] }, { accessFlags := 25, nameIndex := 137, descriptorIndex := 25, attributes := #[] }, { accessFlags := 25, nameIndex := 143, descriptorIndex := 25, attributes := #[] }, { accessFlags := 25, nameIndex := 53, descriptorIndex := 25, attributes := #[] }, { accessFlags := 25, nameIndex := 24, descriptorIndex := 25, attributes := #[] }, { accessFlags := 25, nameIndex := 162, descriptorIndex := 25, attributes := #[] }, { accessFlags := 25, nameIndex := 187, descriptorIndex := 25, attributes := #[] }, { accessFlags := 26, nameIndex := 48, descriptorIndex := 25, attributes := #[] }, { accessFlags := 25, nameIndex := 277, descriptorIndex := 25, attributes := #[] }, { accessFlags := 25, nameIndex := 280, descriptorIndex := 25, attributes := #[] }, { accessFlags := 25, nameIndex := 282, descriptorIndex := 25, attributes := #[] }, { accessFlags := 25, nameIndex := 284, descriptorIndex := 25, attributes := #[] }, { accessFlags := 25, nameIndex := 286, descriptorIndex := 25, attributes := #[] }, { accessFlags := 25, nameIndex := 288, descriptorIndex := 25, attributes := #[] }, { accessFlags := 25, nameIndex := 290, descriptorIndex := 25, attributes := #[] }, { accessFlags := 25, nameIndex := 292, descriptorIndex := 25, attributes := #[] }, { accessFlags := 26, nameIndex := 108, descriptorIndex := 109, attributes := #[] }, { accessFlags := 25, nameIndex := 294, descriptorIndex := 25, attributes := #[] }])
  fields := #[{ name := "U", type := (.object "jdk/internal/misc/Unsafe"), accessFlags := 24, slot := 0, constantValue := 0 }, { name := "BIG_ENDIAN", type := .boolean, accessFlags := 26, slot := 1, constantValue := 0 }, { name := "LOG2_ARRAY_BOOLEAN_INDEX_SCALE", type := .int, accessFlags := 25, slot := 2, constantValue := 0 }, { name := "LOG2_ARRAY_BYTE_INDEX_SCALE", type := .int, accessFlags := 25, slot := 3, constantValue := 0 }, { name := "LOG2_ARRAY_CHAR_INDEX_SCALE", type := .int, accessFlags := 25, slot := 4, constantValue := 0 }, { name := "LOG2_ARRAY_SHORT_INDEX_SCALE", type := .int, accessFlags := 25, slot := 5, constantValue := 0 }, { name := "LOG2_ARRAY_INT_INDEX_SCALE", type := .int, accessFlags := 25, slot := 6, constantValue := 0 }, { name := "LOG2_ARRAY_LONG_INDEX_SCALE", type := .int, accessFlags := 25, slot := 7, constantValue := 0 }, { name := "LOG2_ARRAY_FLOAT_INDEX_SCALE", type := .int, accessFlags := 25, slot := 8, constantValue := 0 }, { name := "LOG2_ARRAY_DOUBLE_INDEX_SCALE", type := .int, accessFlags := 25, slot := 9, constantValue := 0 }, { name := "LOG2_BYTE_BIT_SIZE", type := .int, accessFlags := 26, slot := 10, constantValue := 0 }, { name := "T_BOOLEAN", type := .int, accessFlags := 25, slot := 11, constantValue := 0 }, { name := "T_CHAR", type := .int, accessFlags := 25, slot := 12, constantValue := 0 }, { name := "T_FLOAT", type := .int, accessFlags := 25, slot := 13, constantValue := 0 }, { name := "T_DOUBLE", type := .int, accessFlags := 25, slot := 14, constantValue := 0 }, { name := "T_BYTE", type := .int, accessFlags := 25, slot := 15, constantValue := 0 }, { name := "T_SHORT", type := .int, accessFlags := 25, slot := 16, constantValue := 0 }, { name := "T_INT", type := .int, accessFlags := 25, slot := 17, constantValue := 0 }, { name := "T_LONG", type := .int, accessFlags := 25, slot := 18, constantValue := 0 }, { name := "JLA", type := (.object "jdk/internal/access/JavaLangAccess"), accessFlags := 26, slot := 19, constantValue := 0 }, { name := "SOFT_MAX_ARRAY_LENGTH", type := .int, accessFlags := 25, slot := 20, constantValue := 0 }]
  methods := #[k32m0, k32m1]
  instanceTypes := #[]
  staticTypes := #[(.object "jdk/internal/misc/Unsafe"), .boolean, .int, .int, .int, .int, .int, .int, .int, .int, .int, .int, .int, .int, .int, .int, .int, .int, .int, (.object "jdk/internal/access/JavaLangAccess"), .int]
  resolved := Array.replicate 378 none
  statics := none }

def pool33 : Array CpInfo := pool [(2, .class_ 4), (1, u "java/lang/Object"), (0, u "<init>"), (0, u "()V"), (17, .class_ 26), (1, u "jdk/internal/util/Preconditions"), (6, u "checkIndex"), (21, .class_ 56), (0, u "jdk/internal/util/Preconditions$4"), (57, .class_ 115), (0, u "jdk/internal/util/Preconditions$1"), (7, u "SIOOBE_FORMATTER"), (0, u "Ljava/util/function/BiFunction;"), (0, .class_ 126), (0, u "jdk/internal/util/Preconditions$2"), (3, u "AIOOBE_FORMATTER"), (0, .class_ 132), (0, u "jdk/internal/util/Preconditions$3"), (3, u "IOOBE_FORMATTER"), (41, u "(IILjava/util/function/BiFunction;)I")] 15

def k33m0 : Method := { name := "<init>", desc := "()V", sig := { parameters := [], returnType := none }, accessFlags := 1, code := none }
def k33c1 : Code := { maxStack := 3, maxLocals := 3, code := jdk_41_method_11_code, exceptionTable := #[], attributes := #[] }
def k33m1 : Method := { name := "checkIndex", desc := "(IILjava/util/function/BiFunction;)I", sig := { parameters := [.int, .int, (.object "java/util/function/BiFunction")], returnType := some .int }, accessFlags := 9, code := some k33c1 }
/-- jdk/internal/util/Preconditions -/
def k33 : Class := { plain "jdk/internal/util/Preconditions" (some 0) with
  accessFlags := 33
  interfaces := #[]
  cf := some (fileOf pool33 24 #[.nestMembers #[55, 131, 125, 114]] #[{ accessFlags := 1, nameIndex := 5, descriptorIndex := 6, attributes := #[] }, { accessFlags := 9, nameIndex := 33, descriptorIndex := 178, attributes := #[] }] 33 2 #[] #[{ accessFlags := 25, nameIndex := 123, descriptorIndex := 124, attributes := #[] }, { accessFlags := 25, nameIndex := 130, descriptorIndex := 124, attributes := #[] }, { accessFlags := 25, nameIndex := 136, descriptorIndex := 124, attributes := #[] }])
  fields := #[{ name := "SIOOBE_FORMATTER", type := (.object "java/util/function/BiFunction"), accessFlags := 25, slot := 0, constantValue := 0 }, { name := "AIOOBE_FORMATTER", type := (.object "java/util/function/BiFunction"), accessFlags := 25, slot := 1, constantValue := 0 }, { name := "IOOBE_FORMATTER", type := (.object "java/util/function/BiFunction"), accessFlags := 25, slot := 2, constantValue := 0 }]
  methods := #[k33m0, k33m1]
  instanceTypes := #[]
  staticTypes := #[(.object "java/util/function/BiFunction"), (.object "java/util/function/BiFunction"), (.object "java/util/function/BiFunction")]
  resolved := Array.replicate 194 none
  statics := none }

def pool34 : Array CpInfo := pool [(1, u "java/lang/Class"), (0, .class_ 1), (0, u "java/lang/Object"), (0, .class_ 3)] 3

/-- java/lang/Class -/
def k34 : Class := { plain "java/lang/Class" (some 0) with
  accessFlags := 49
  interfaces := #[]
  cf := some (fileOf pool34 2 #[] #[] 49 4 #[] #[])
  fields := #[]
  methods := #[]
  instanceTypes := #[]
  staticTypes := #[]
  resolved := Array.replicate 8 none
  statics := none }

/-- the primitive byte -/
def k35 : Class := { plain "byte" none with kind := .primitive 'B', accessFlags := 0x411 }
/-- [B -/
def k36 : Class := { plain "[B" (some 0) with kind := .array 35 .byte, interfaces := #[20, 4], accessFlags := 1041 }

/-- the primitive int -/
def k37 : Class := { plain "int" none with kind := .primitive 'I', accessFlags := 0x411 }
/-- [I -/
def k38 : Class := { plain "[I" (some 0) with kind := .array 37 .int, interfaces := #[20, 4], accessFlags := 1041 }

/-- [Ljava/lang/Object; -/
def k39 : Class := { plain "[Ljava/lang/Object;" (some 0) with kind := .array 0 (.object "java/lang/Object"), interfaces := #[20, 4], accessFlags := 1041, mirror := some 6 }

def heap : Heap := #[{ cls := 6, slots := #[.ref 9, .ref 10, .null], vm := .statics 6 },
  { cls := 22, slots := #[.int 0, .int 0, .ref 8], vm := .statics 22 },
  { cls := 23, slots := #[.ref 11, .ref 12, .ref 13, .ref 14, .null, .null, .null, .null], vm := .statics 23 },
  { cls := 28, slots := #[.long 0, .int 0, .null, .ref 43, .ref 44, .null, .null, .null, .int 0, .int 1], vm := .statics 28 },
  { cls := 34, slots := #[], vm := .mirror 27 },
  { cls := 34, slots := #[], vm := .mirror 21 },
  { cls := 34, slots := #[], vm := .mirror 39 },
  { cls := 39, slots := #[.ref 15, .ref 16, .ref 17, .ref 18, .ref 19, .ref 20, .ref 21, .ref 22, .ref 23, .ref 24, .ref 25, .ref 26, .ref 27, .ref 28, .ref 29, .ref 30, .ref 31, .ref 32, .ref 33, .ref 34, .ref 35, .ref 36, .ref 37, .ref 38, .ref 39, .ref 40, .ref 41, .ref 42], vm := .none },
  { cls := 26, slots := #[.ref 7, .int 0], vm := .none },
  { cls := 6, slots := #[.null, .int 0, .int 0], vm := .none },
  { cls := 6, slots := #[.null, .int 1, .int 0], vm := .none },
  { cls := 23, slots := #[.null, .int 0, .int 0, .int 1, .null], vm := .none },
  { cls := 23, slots := #[.null, .int 1, .int 0, .int 2, .null], vm := .none },
  { cls := 23, slots := #[.null, .int 2, .int 0, .int 1, .null], vm := .none },
  { cls := 23, slots := #[.null, .int 3, .int 0, .int 1, .null], vm := .none },
  { cls := 22, slots := #[.null, .int 0], vm := .none },
  { cls := 22, slots := #[.null, .int 1], vm := .none },
  { cls := 22, slots := #[.null, .int 2], vm := .none },
  { cls := 22, slots := #[.null, .int 3], vm := .none },
  { cls := 22, slots := #[.null, .int 4], vm := .none },
  { cls := 22, slots := #[.null, .int 5], vm := .none },
  { cls := 22, slots := #[.null, .int 6], vm := .none },
  { cls := 22, slots := #[.null, .int 7], vm := .none },
  { cls := 22, slots := #[.null, .int 8], vm := .none },
  { cls := 22, slots := #[.null, .int 9], vm := .none },
  { cls := 22, slots := #[.null, .int 10], vm := .none },
  { cls := 22, slots := #[.null, .int 11], vm := .none },
  { cls := 22, slots := #[.null, .int 12], vm := .none },
  { cls := 22, slots := #[.null, .int 13], vm := .none },
  { cls := 22, slots := #[.null, .int 14], vm := .none },
  { cls := 22, slots := #[.null, .int 15], vm := .none },
  { cls := 22, slots := #[.null, .int 16], vm := .none },
  { cls := 22, slots := #[.null, .int 17], vm := .none },
  { cls := 22, slots := #[.null, .int 18], vm := .none },
  { cls := 22, slots := #[.null, .int 19], vm := .none },
  { cls := 22, slots := #[.null, .int 20], vm := .none },
  { cls := 22, slots := #[.null, .int 21], vm := .none },
  { cls := 22, slots := #[.null, .int 22], vm := .none },
  { cls := 22, slots := #[.null, .int 23], vm := .none },
  { cls := 22, slots := #[.null, .int 24], vm := .none },
  { cls := 22, slots := #[.null, .int 25], vm := .none },
  { cls := 22, slots := #[.null, .int 26], vm := .none },
  { cls := 22, slots := #[.null, .int 27], vm := .none },
  { cls := 0, slots := #[], vm := .none },
  { cls := 26, slots := #[.null, .int 0], vm := .none }]
def classes : Array Class := #[k0, k1, k2, k3, k4, k5, k6, k7, k8, k9, k10, k11, k12, k13, k14, k15, k16, k17, k18, k19, k20, k21, k22, k23, k24, k25, k26, k27, k28, k29, k30, k31, k32, k33, k34, k35, k36, k37, k38, k39]
def interned : List (Array UInt16 × Addr) := []
def slotsUsed : Nat := 138
def theMethod : MethodId := ⟨1, 1⟩
def args0 : Array Value := #[.int 5, .int 6, .int 7, .int 3]
def aboutOver (below : List Frame) : State where
  vm := { classes := classes, interned := interned.toArray }
  heap := heap
  slotsUsed := slotsUsed
  threads := #[{ frames := .invoking theMethod args0 :: below }]
def below0 : List Frame := [.native { method := ⟨0, 0⟩, args := #[] }]
def about1 : State := aboutOver below0
def p0 : Program := .bare "" "" ""
def e0 : Env := launch0.env 0 0 0
theorem w_frames : about1.frames = Frame.invoking theMethod args0 :: below0 := rfl
set_option maxRecDepth 65536 in
theorem w_args : argsFit about1.vm theMethod args0 = true := by decide +kernel
set_option maxRecDepth 65536 in
theorem w_heap : heapFits about1 = true := by decide +kernel
set_option maxRecDepth 65536 in
theorem w_runnable : about1.curStatus? = some .runnable := by decide +kernel
set_option maxRecDepth 65536 in
theorem w_alone : about1.alone = true := by decide +kernel
set_option maxRecDepth 65536 in
theorem w_named : about1.methodNamed? x = some theMethod := by decide +kernel
set_option maxRecDepth 65536 in
theorem w_hears : about1.hears theMethod below0 = true := by decide +kernel
set_option maxRecDepth 65536 in
theorem w_ripe : about1.ripe theMethod args0 below0 = true := by decide +kernel
theorem w_running : about1.status = .running := rfl
set_option maxRecDepth 65536 in
theorem w_room : about1.hasRoom e0.platform room_1 = true :=
  launch0.hasRoom_least _ room_1 (by decide +kernel) (by decide +kernel) (by decide +kernel) (by decide +kernel) (by decide +kernel) (by decide +kernel)
theorem allAtoms_all (ts : List Jvm.Cond) (a : Array Jvm.Value) (st : Jvm.State) : (allAtoms ts).before a st = ts.all (fun c => c.before a st) := by
  induction ts with
  | nil => rfl
  | cons c t ih =>
    show (Jvm.Cond.and c (allAtoms t)).before a st = _
    rw [Jvm.Cond.before_and, ih, List.all_cons]
def words1 : List Jvm.Cond := Jvm.Cond.code x code maxLocals ret :: tables_1
/-- a 'code' word, met by the world's own term for the bytes: nothing is compared byte by byte -/
theorem code_word {y : MethodName} {bytes : ByteArray} {mx : Nat} {rt : Option FieldType} {a : Array Value} {s : State} {m : MethodId} {meth : Method} {c : Code} (h1 : s.methodNamed? y = some m) (h2 : s.vm.method? m = some meth) (h3 : meth.code = some c) (h4 : c.code = bytes)
    (h5 : (c.maxLocals == mx && c.exceptionTable.isEmpty && decide (c.maxStack ≤ mostOperands) && decide (meth.sig.returnType = rt) && !meth.locks && decide (parseMethodDescriptor y.desc = some meth.sig)) = true) : (Jvm.Cond.code y bytes mx rt).before a s = true := by
  simp only [Bool.and_eq_true, beq_iff_eq, Bool.not_eq_true', decide_eq_true_eq] at h5
  obtain ⟨⟨⟨⟨⟨g1, g2⟩, g3⟩, g4⟩, g5⟩, g6⟩ := h5
  simp [Cond.before, Cond.holds, Cond.value, h1, h2, h3, h4, g1, g2, g3, g4, g5, g6]
def isCode : Jvm.Cond → Bool
  | .code _ _ _ _ => true
  | _ => false
theorem all_split {L : List Jvm.Cond} {P : Jvm.Cond → Bool} (h1 : L.all (fun c => isCode c || P c) = true) (h2 : ∀ c ∈ L.filter isCode, P c = true) : L.all P = true := by
  refine List.all_eq_true.mpr fun c hc => ?_
  have h := List.all_eq_true.mp h1 c hc
  rcases Bool.eq_false_or_eq_true (isCode c) with hi | hi
  · exact h2 c (List.mem_filter.mpr ⟨hc, hi⟩)
  · simpa [hi] using h
set_option maxRecDepth 65536 in
theorem w_c0 : (Jvm.Cond.code x code maxLocals ret).before args0 about1 = true := code_word (m := ⟨1, 1⟩) (meth := k1m1) (c := k1c1) (by decide +kernel) rfl rfl rfl (by decide +kernel)
set_option maxRecDepth 65536 in
theorem w_c1 : (Jvm.Cond.code ({ cls := "com/example/wayfare/wayfare/market/Trip", name := "<init>", desc := "(IILcom/example/wayfare/wayfare/market/Hotel;)V" } : Jvm.MethodName) prog_82_method_1_code (4 : Nat) (Option.none : Option Jvm.ClassFile.FieldType)).before args0 about1 = true := code_word (m := ⟨8, 0⟩) (meth := k8m0) (c := k8c0) (by decide +kernel) rfl rfl rfl (by decide +kernel)
set_option maxRecDepth 65536 in
theorem w_c2 : (Jvm.Cond.code ({ cls := "java/lang/Record", name := "<init>", desc := "()V" } : Jvm.MethodName) jdk_30_method_1_code (1 : Nat) (Option.none : Option Jvm.ClassFile.FieldType)).before args0 about1 = true := code_word (m := ⟨7, 0⟩) (meth := k7m0) (c := k7c0) (by decide +kernel) rfl rfl rfl (by decide +kernel)
set_option maxRecDepth 65536 in
theorem w_c3 : (Jvm.Cond.code ({ cls := "java/lang/Object", name := "<init>", desc := "()V" } : Jvm.MethodName) object_method_1_code (1 : Nat) (Option.none : Option Jvm.ClassFile.FieldType)).before args0 about1 = true := code_word (m := ⟨0, 0⟩) (meth := k0m0) (c := k0c0) (by decide +kernel) rfl rfl rfl (by decide +kernel)
set_option maxRecDepth 65536 in
theorem w_c4 : (Jvm.Cond.code ({ cls := "com/example/wayfare/wayfare/market/Trip", name := "checkDays", desc := "(II)V" } : Jvm.MethodName) prog_82_method_2_code (2 : Nat) (Option.none : Option Jvm.ClassFile.FieldType)).before args0 about1 = true := code_word (m := ⟨8, 1⟩) (meth := k8m1) (c := k8c1) (by decide +kernel) rfl rfl rfl (by decide +kernel)
set_option maxRecDepth 65536 in
theorem w_c5 : (Jvm.Cond.code ({ cls := "java/util/Objects", name := "requireNonNull", desc := "(Ljava/lang/Object;Ljava/lang/String;)Ljava/lang/Object;" } : Jvm.MethodName) jdk_31_method_11_code (2 : Nat) (Option.some (Jvm.ClassFile.FieldType.object "java/lang/Object"))).before args0 about1 = true := code_word (m := ⟨12, 2⟩) (meth := k12m2) (c := k12c2) (by decide +kernel) rfl rfl rfl (by decide +kernel)
set_option maxRecDepth 65536 in
theorem w_c6 : (Jvm.Cond.code ({ cls := "com/example/wayfare/wayfare/market/Trip", name := "nightInTown", desc := "(I)Z" } : Jvm.MethodName) prog_82_method_4_code (2 : Nat) (Option.some Jvm.ClassFile.FieldType.boolean)).before args0 about1 = true := code_word (m := ⟨8, 2⟩) (meth := k8m2) (c := k8c2) (by decide +kernel) rfl rfl rfl (by decide +kernel)
set_option maxRecDepth 65536 in
theorem w_c7 : (Jvm.Cond.code ({ cls := "com/example/wayfare/wayfare/market/Trip", name := "goods", desc := "()Ljava/util/List;" } : Jvm.MethodName) prog_82_method_5_code (3 : Nat) (Option.some (Jvm.ClassFile.FieldType.object "java/util/List"))).before args0 about1 = true := code_word (m := ⟨8, 3⟩) (meth := k8m3) (c := k8c3) (by decide +kernel) rfl rfl rfl (by decide +kernel)
set_option maxRecDepth 65536 in
theorem w_c8 : (Jvm.Cond.code ({ cls := "com/example/wayfare/wayfare/market/Good", name := "inflight", desc := "(I)Lcom/example/wayfare/wayfare/market/Good;" } : Jvm.MethodName) prog_50_method_2_code (1 : Nat) (Option.some (Jvm.ClassFile.FieldType.object "com/example/wayfare/wayfare/market/Good"))).before args0 about1 = true := code_word (m := ⟨22, 0⟩) (meth := k22m0) (c := k22c0) (by decide +kernel) rfl rfl rfl (by decide +kernel)
set_option maxRecDepth 65536 in
theorem w_c9 : (Jvm.Cond.code ({ cls := "com/example/wayfare/wayfare/market/Good", name := "of", desc := "(Lcom/example/wayfare/wayfare/market/Good$Line;I)Lcom/example/wayfare/wayfare/market/Good;" } : Jvm.MethodName) prog_50_method_6_code (2 : Nat) (Option.some (Jvm.ClassFile.FieldType.object "com/example/wayfare/wayfare/market/Good"))).before args0 about1 = true := code_word (m := ⟨22, 3⟩) (meth := k22m3) (c := k22c3) (by decide +kernel) rfl rfl rfl (by decide +kernel)
set_option maxRecDepth 65536 in
theorem w_c10 : (Jvm.Cond.code ({ cls := "java/lang/Enum", name := "ordinal", desc := "()I" } : Jvm.MethodName) jdk_37_method_2_code (1 : Nat) (Option.some Jvm.ClassFile.FieldType.int)).before args0 about1 = true := code_word (m := ⟨5, 0⟩) (meth := k5m0) (c := k5c0) (by decide +kernel) rfl rfl rfl (by decide +kernel)
set_option maxRecDepth 65536 in
theorem w_c11 : (Jvm.Cond.code ({ cls := "java/util/ImmutableCollections$ListN", name := "get", desc := "(I)Ljava/lang/Object;" } : Jvm.MethodName) jdk_45_method_4_code (2 : Nat) (Option.some (Jvm.ClassFile.FieldType.object "java/lang/Object"))).before args0 about1 = true := code_word (m := ⟨26, 0⟩) (meth := k26m0) (c := k26c0) (by decide +kernel) rfl rfl rfl (by decide +kernel)
set_option maxRecDepth 65536 in
theorem w_c12 : (Jvm.Cond.code ({ cls := "com/example/wayfare/wayfare/market/Good", name := "outflight", desc := "(I)Lcom/example/wayfare/wayfare/market/Good;" } : Jvm.MethodName) prog_50_method_3_code (1 : Nat) (Option.some (Jvm.ClassFile.FieldType.object "com/example/wayfare/wayfare/market/Good"))).before args0 about1 = true := code_word (m := ⟨22, 1⟩) (meth := k22m1) (c := k22c1) (by decide +kernel) rfl rfl rfl (by decide +kernel)
set_option maxRecDepth 65536 in
theorem w_c13 : (Jvm.Cond.code ({ cls := "java/util/List", name := "of", desc := "(Ljava/lang/Object;Ljava/lang/Object;)Ljava/util/List;" } : Jvm.MethodName) jdk_40_method_38_code (2 : Nat) (Option.some (Jvm.ClassFile.FieldType.object "java/util/List"))).before args0 about1 = true := code_word (m := ⟨17, 3⟩) (meth := k17m3) (c := k17c3) (by decide +kernel) rfl rfl rfl (by decide +kernel)
set_option maxRecDepth 65536 in
theorem w_c14 : (Jvm.Cond.code ({ cls := "java/util/ImmutableCollections$List12", name := "<init>", desc := "(Ljava/lang/Object;Ljava/lang/Object;)V" } : Jvm.MethodName) jdk_44_method_2_code (3 : Nat) (Option.none : Option Jvm.ClassFile.FieldType)).before args0 about1 = true := code_word (m := ⟨27, 0⟩) (meth := k27m0) (c := k27c0) (by decide +kernel) rfl rfl rfl (by decide +kernel)
set_option maxRecDepth 65536 in
theorem w_c15 : (Jvm.Cond.code ({ cls := "java/util/ImmutableCollections$AbstractImmutableList", name := "<init>", desc := "()V" } : Jvm.MethodName) jdk_46_method_1_code (1 : Nat) (Option.none : Option Jvm.ClassFile.FieldType)).before args0 about1 = true := code_word (m := ⟨25, 0⟩) (meth := k25m0) (c := k25c0) (by decide +kernel) rfl rfl rfl (by decide +kernel)
set_option maxRecDepth 65536 in
theorem w_c16 : (Jvm.Cond.code ({ cls := "java/util/ImmutableCollections$AbstractImmutableCollection", name := "<init>", desc := "()V" } : Jvm.MethodName) jdk_47_method_1_code (1 : Nat) (Option.none : Option Jvm.ClassFile.FieldType)).before args0 about1 = true := code_word (m := ⟨24, 0⟩) (meth := k24m0) (c := k24c0) (by decide +kernel) rfl rfl rfl (by decide +kernel)
set_option maxRecDepth 65536 in
theorem w_c17 : (Jvm.Cond.code ({ cls := "java/util/AbstractCollection", name := "<init>", desc := "()V" } : Jvm.MethodName) jdk_22_method_1_code (1 : Nat) (Option.none : Option Jvm.ClassFile.FieldType)).before args0 about1 = true := code_word (m := ⟨15, 0⟩) (meth := k15m0) (c := k15c0) (by decide +kernel) rfl rfl rfl (by decide +kernel)
set_option maxRecDepth 65536 in
theorem w_c18 : (Jvm.Cond.code ({ cls := "java/util/Objects", name := "requireNonNull", desc := "(Ljava/lang/Object;)Ljava/lang/Object;" } : Jvm.MethodName) jdk_31_method_10_code (1 : Nat) (Option.some (Jvm.ClassFile.FieldType.object "java/lang/Object"))).before args0 about1 = true := code_word (m := ⟨12, 1⟩) (meth := k12m1) (c := k12c1) (by decide +kernel) rfl rfl rfl (by decide +kernel)
set_option maxRecDepth 65536 in
theorem w_c19 : (Jvm.Cond.code ({ cls := "java/util/ArrayList", name := "<init>", desc := "(Ljava/util/Collection;)V" } : Jvm.MethodName) jdk_38_method_3_code (3 : Nat) (Option.none : Option Jvm.ClassFile.FieldType)).before args0 about1 = true := code_word (m := ⟨21, 1⟩) (meth := k21m1) (c := k21c1) (by decide +kernel) rfl rfl rfl (by decide +kernel)
set_option maxRecDepth 65536 in
theorem w_c20 : (Jvm.Cond.code ({ cls := "java/util/AbstractList", name := "<init>", desc := "()V" } : Jvm.MethodName) jdk_39_method_1_code (1 : Nat) (Option.none : Option Jvm.ClassFile.FieldType)).before args0 about1 = true := code_word (m := ⟨18, 0⟩) (meth := k18m0) (c := k18c0) (by decide +kernel) rfl rfl rfl (by decide +kernel)
set_option maxRecDepth 65536 in
theorem w_c21 : (Jvm.Cond.code ({ cls := "java/util/ImmutableCollections$List12", name := "toArray", desc := "()[Ljava/lang/Object;" } : Jvm.MethodName) jdk_44_method_10_code (1 : Nat) (Option.some (Jvm.ClassFile.FieldType.array (Jvm.ClassFile.FieldType.object "java/lang/Object")))).before args0 about1 = true := code_word (m := ⟨27, 1⟩) (meth := k27m1) (c := k27c1) (by decide +kernel) rfl rfl rfl (by decide +kernel)
set_option maxRecDepth 65536 in
theorem w_c22 : (Jvm.Cond.code ({ cls := "java/util/Arrays", name := "copyOf", desc := "([Ljava/lang/Object;ILjava/lang/Class;)[Ljava/lang/Object;" } : Jvm.MethodName) jdk_65_method_120_code (4 : Nat) (Option.some (Jvm.ClassFile.FieldType.array (Jvm.ClassFile.FieldType.object "java/lang/Object")))).before args0 about1 = true := code_word (m := ⟨29, 2⟩) (meth := k29m2) (c := k29c2) (by decide +kernel) rfl rfl rfl (by decide +kernel)
set_option maxRecDepth 65536 in
theorem w_c23 : (Jvm.Cond.code ({ cls := "java/lang/Math", name := "min", desc := "(II)I" } : Jvm.MethodName) jdk_29_method_69_code (2 : Nat) (Option.some Jvm.ClassFile.FieldType.int)).before args0 about1 = true := code_word (m := ⟨30, 2⟩) (meth := k30m2) (c := k30c2) (by decide +kernel) rfl rfl rfl (by decide +kernel)
set_option maxRecDepth 65536 in
theorem w_c24 : (Jvm.Cond.code ({ cls := "com/example/wayfare/wayfare/market/Good", name := "room", desc := "(Lcom/example/wayfare/wayfare/market/Hotel;I)Lcom/example/wayfare/wayfare/market/Good;" } : Jvm.MethodName) prog_50_method_4_code (2 : Nat) (Option.some (Jvm.ClassFile.FieldType.object "com/example/wayfare/wayfare/market/Good"))).before args0 about1 = true := code_word (m := ⟨22, 2⟩) (meth := k22m2) (c := k22c2) (by decide +kernel) rfl rfl rfl (by decide +kernel)
set_option maxRecDepth 65536 in
theorem w_c25 : (Jvm.Cond.code ({ cls := "java/util/ArrayList", name := "add", desc := "(Ljava/lang/Object;)Z" } : Jvm.MethodName) jdk_38_method_25_code (2 : Nat) (Option.some Jvm.ClassFile.FieldType.boolean)).before args0 about1 = true := code_word (m := ⟨21, 8⟩) (meth := k21m8) (c := k21c8) (by decide +kernel) rfl rfl rfl (by decide +kernel)
set_option maxRecDepth 65536 in
theorem w_c26 : (Jvm.Cond.code ({ cls := "java/util/ArrayList", name := "add", desc := "(Ljava/lang/Object;[Ljava/lang/Object;I)V" } : Jvm.MethodName) jdk_38_method_24_code (4 : Nat) (Option.none : Option Jvm.ClassFile.FieldType)).before args0 about1 = true := code_word (m := ⟨21, 7⟩) (meth := k21m7) (c := k21c7) (by decide +kernel) rfl rfl rfl (by decide +kernel)
set_option maxRecDepth 65536 in
theorem w_c27 : (Jvm.Cond.code ({ cls := "java/util/ArrayList", name := "grow", desc := "()[Ljava/lang/Object;" } : Jvm.MethodName) jdk_38_method_7_code (1 : Nat) (Option.some (Jvm.ClassFile.FieldType.array (Jvm.ClassFile.FieldType.object "java/lang/Object")))).before args0 about1 = true := code_word (m := ⟨21, 3⟩) (meth := k21m3) (c := k21c3) (by decide +kernel) rfl rfl rfl (by decide +kernel)
set_option maxRecDepth 65536 in
theorem w_c28 : (Jvm.Cond.code ({ cls := "java/util/ArrayList", name := "grow", desc := "(I)[Ljava/lang/Object;" } : Jvm.MethodName) jdk_38_method_6_code (4 : Nat) (Option.some (Jvm.ClassFile.FieldType.array (Jvm.ClassFile.FieldType.object "java/lang/Object")))).before args0 about1 = true := code_word (m := ⟨21, 2⟩) (meth := k21m2) (c := k21c2) (by decide +kernel) rfl rfl rfl (by decide +kernel)
set_option maxRecDepth 65536 in
theorem w_c29 : (Jvm.Cond.code ({ cls := "jdk/internal/util/ArraysSupport", name := "newLength", desc := "(III)I" } : Jvm.MethodName) jdk_48_method_27_code (4 : Nat) (Option.some Jvm.ClassFile.FieldType.int)).before args0 about1 = true := code_word (m := ⟨32, 1⟩) (meth := k32m1) (c := k32c1) (by decide +kernel) rfl rfl rfl (by decide +kernel)
set_option maxRecDepth 65536 in
theorem w_c30 : (Jvm.Cond.code ({ cls := "java/lang/Math", name := "max", desc := "(II)I" } : Jvm.MethodName) jdk_29_method_65_code (2 : Nat) (Option.some Jvm.ClassFile.FieldType.int)).before args0 about1 = true := code_word (m := ⟨30, 1⟩) (meth := k30m1) (c := k30c1) (by decide +kernel) rfl rfl rfl (by decide +kernel)
set_option maxRecDepth 65536 in
theorem w_c31 : (Jvm.Cond.code ({ cls := "java/util/Arrays", name := "copyOf", desc := "([Ljava/lang/Object;I)[Ljava/lang/Object;" } : Jvm.MethodName) jdk_65_method_119_code (2 : Nat) (Option.some (Jvm.ClassFile.FieldType.array (Jvm.ClassFile.FieldType.object "java/lang/Object")))).before args0 about1 = true := code_word (m := ⟨29, 1⟩) (meth := k29m1) (c := k29c1) (by decide +kernel) rfl rfl rfl (by decide +kernel)
set_option maxRecDepth 65536 in
theorem w_c32 : (Jvm.Cond.code ({ cls := "java/util/ArrayList", name := "size", desc := "()I" } : Jvm.MethodName) jdk_38_method_8_code (1 : Nat) (Option.some Jvm.ClassFile.FieldType.int)).before args0 about1 = true := code_word (m := ⟨21, 4⟩) (meth := k21m4) (c := k21c4) (by decide +kernel) rfl rfl rfl (by decide +kernel)
set_option maxRecDepth 65536 in
theorem w_c33 : (Jvm.Cond.code ({ cls := "com/example/wayfare/wayfare/market/TripNightInTownPinLaw", name := "at", desc := "(Ljava/util/List;IILcom/example/wayfare/wayfare/market/Good;)Z" } : Jvm.MethodName) method_3_code (4 : Nat) (Option.some Jvm.ClassFile.FieldType.boolean)).before args0 about1 = true := code_word (m := ⟨1, 2⟩) (meth := k1m2) (c := k1c2) (by decide +kernel) rfl rfl rfl (by decide +kernel)
set_option maxRecDepth 65536 in
theorem w_c34 : (Jvm.Cond.code ({ cls := "java/util/ArrayList", name := "get", desc := "(I)Ljava/lang/Object;" } : Jvm.MethodName) jdk_38_method_20_code (2 : Nat) (Option.some (Jvm.ClassFile.FieldType.object "java/lang/Object"))).before args0 about1 = true := code_word (m := ⟨21, 6⟩) (meth := k21m6) (c := k21c6) (by decide +kernel) rfl rfl rfl (by decide +kernel)
set_option maxRecDepth 65536 in
theorem w_c35 : (Jvm.Cond.code ({ cls := "java/util/Objects", name := "checkIndex", desc := "(II)I" } : Jvm.MethodName) jdk_31_method_17_code (2 : Nat) (Option.some Jvm.ClassFile.FieldType.int)).before args0 about1 = true := code_word (m := ⟨12, 3⟩) (meth := k12m3) (c := k12c3) (by decide +kernel) rfl rfl rfl (by decide +kernel)
set_option maxRecDepth 65536 in
theorem w_c36 : (Jvm.Cond.code ({ cls := "jdk/internal/util/Preconditions", name := "checkIndex", desc := "(IILjava/util/function/BiFunction;)I" } : Jvm.MethodName) jdk_41_method_11_code (3 : Nat) (Option.some Jvm.ClassFile.FieldType.int)).before args0 about1 = true := code_word (m := ⟨33, 1⟩) (meth := k33m1) (c := k33c1) (by decide +kernel) rfl rfl rfl (by decide +kernel)
set_option maxRecDepth 65536 in
theorem w_c37 : (Jvm.Cond.code ({ cls := "java/util/ArrayList", name := "elementData", desc := "(I)Ljava/lang/Object;" } : Jvm.MethodName) jdk_38_method_18_code (2 : Nat) (Option.some (Jvm.ClassFile.FieldType.object "java/lang/Object"))).before args0 about1 = true := code_word (m := ⟨21, 5⟩) (meth := k21m5) (c := k21c5) (by decide +kernel) rfl rfl rfl (by decide +kernel)
def codes1 : List Jvm.Cond := [Jvm.Cond.code x code maxLocals ret, Jvm.Cond.code ({ cls := "com/example/wayfare/wayfare/market/Trip", name := "<init>", desc := "(IILcom/example/wayfare/wayfare/market/Hotel;)V" } : Jvm.MethodName) prog_82_method_1_code (4 : Nat) (Option.none : Option Jvm.ClassFile.FieldType), Jvm.Cond.code ({ cls := "java/lang/Record", name := "<init>", desc := "()V" } : Jvm.MethodName) jdk_30_method_1_code (1 : Nat) (Option.none : Option Jvm.ClassFile.FieldType), Jvm.Cond.code ({ cls := "java/lang/Object", name := "<init>", desc := "()V" } : Jvm.MethodName) object_method_1_code (1 : Nat) (Option.none : Option Jvm.ClassFile.FieldType), Jvm.Cond.code ({ cls := "com/example/wayfare/wayfare/market/Trip", name := "checkDays", desc := "(II)V" } : Jvm.MethodName) prog_82_method_2_code (2 : Nat) (Option.none : Option Jvm.ClassFile.FieldType), Jvm.Cond.code ({ cls := "java/util/Objects", name := "requireNonNull", desc := "(Ljava/lang/Object;Ljava/lang/String;)Ljava/lang/Object;" } : Jvm.MethodName) jdk_31_method_11_code (2 : Nat) (Option.some (Jvm.ClassFile.FieldType.object "java/lang/Object")), Jvm.Cond.code ({ cls := "com/example/wayfare/wayfare/market/Trip", name := "nightInTown", desc := "(I)Z" } : Jvm.MethodName) prog_82_method_4_code (2 : Nat) (Option.some Jvm.ClassFile.FieldType.boolean), Jvm.Cond.code ({ cls := "com/example/wayfare/wayfare/market/Trip", name := "goods", desc := "()Ljava/util/List;" } : Jvm.MethodName) prog_82_method_5_code (3 : Nat) (Option.some (Jvm.ClassFile.FieldType.object "java/util/List")), Jvm.Cond.code ({ cls := "com/example/wayfare/wayfare/market/Good", name := "inflight", desc := "(I)Lcom/example/wayfare/wayfare/market/Good;" } : Jvm.MethodName) prog_50_method_2_code (1 : Nat) (Option.some (Jvm.ClassFile.FieldType.object "com/example/wayfare/wayfare/market/Good")), Jvm.Cond.code ({ cls := "com/example/wayfare/wayfare/market/Good", name := "of", desc := "(Lcom/example/wayfare/wayfare/market/Good$Line;I)Lcom/example/wayfare/wayfare/market/Good;" } : Jvm.MethodName) prog_50_method_6_code (2 : Nat) (Option.some (Jvm.ClassFile.FieldType.object "com/example/wayfare/wayfare/market/Good")), Jvm.Cond.code ({ cls := "java/lang/Enum", name := "ordinal", desc := "()I" } : Jvm.MethodName) jdk_37_method_2_code (1 : Nat) (Option.some Jvm.ClassFile.FieldType.int), Jvm.Cond.code ({ cls := "java/util/ImmutableCollections$ListN", name := "get", desc := "(I)Ljava/lang/Object;" } : Jvm.MethodName) jdk_45_method_4_code (2 : Nat) (Option.some (Jvm.ClassFile.FieldType.object "java/lang/Object")), Jvm.Cond.code ({ cls := "com/example/wayfare/wayfare/market/Good", name := "outflight", desc := "(I)Lcom/example/wayfare/wayfare/market/Good;" } : Jvm.MethodName) prog_50_method_3_code (1 : Nat) (Option.some (Jvm.ClassFile.FieldType.object "com/example/wayfare/wayfare/market/Good")), Jvm.Cond.code ({ cls := "java/util/List", name := "of", desc := "(Ljava/lang/Object;Ljava/lang/Object;)Ljava/util/List;" } : Jvm.MethodName) jdk_40_method_38_code (2 : Nat) (Option.some (Jvm.ClassFile.FieldType.object "java/util/List")), Jvm.Cond.code ({ cls := "java/util/ImmutableCollections$List12", name := "<init>", desc := "(Ljava/lang/Object;Ljava/lang/Object;)V" } : Jvm.MethodName) jdk_44_method_2_code (3 : Nat) (Option.none : Option Jvm.ClassFile.FieldType), Jvm.Cond.code ({ cls := "java/util/ImmutableCollections$AbstractImmutableList", name := "<init>", desc := "()V" } : Jvm.MethodName) jdk_46_method_1_code (1 : Nat) (Option.none : Option Jvm.ClassFile.FieldType), Jvm.Cond.code ({ cls := "java/util/ImmutableCollections$AbstractImmutableCollection", name := "<init>", desc := "()V" } : Jvm.MethodName) jdk_47_method_1_code (1 : Nat) (Option.none : Option Jvm.ClassFile.FieldType), Jvm.Cond.code ({ cls := "java/util/AbstractCollection", name := "<init>", desc := "()V" } : Jvm.MethodName) jdk_22_method_1_code (1 : Nat) (Option.none : Option Jvm.ClassFile.FieldType), Jvm.Cond.code ({ cls := "java/util/Objects", name := "requireNonNull", desc := "(Ljava/lang/Object;)Ljava/lang/Object;" } : Jvm.MethodName) jdk_31_method_10_code (1 : Nat) (Option.some (Jvm.ClassFile.FieldType.object "java/lang/Object")), Jvm.Cond.code ({ cls := "java/util/ArrayList", name := "<init>", desc := "(Ljava/util/Collection;)V" } : Jvm.MethodName) jdk_38_method_3_code (3 : Nat) (Option.none : Option Jvm.ClassFile.FieldType), Jvm.Cond.code ({ cls := "java/util/AbstractList", name := "<init>", desc := "()V" } : Jvm.MethodName) jdk_39_method_1_code (1 : Nat) (Option.none : Option Jvm.ClassFile.FieldType), Jvm.Cond.code ({ cls := "java/util/ImmutableCollections$List12", name := "toArray", desc := "()[Ljava/lang/Object;" } : Jvm.MethodName) jdk_44_method_10_code (1 : Nat) (Option.some (Jvm.ClassFile.FieldType.array (Jvm.ClassFile.FieldType.object "java/lang/Object"))), Jvm.Cond.code ({ cls := "java/util/Arrays", name := "copyOf", desc := "([Ljava/lang/Object;ILjava/lang/Class;)[Ljava/lang/Object;" } : Jvm.MethodName) jdk_65_method_120_code (4 : Nat) (Option.some (Jvm.ClassFile.FieldType.array (Jvm.ClassFile.FieldType.object "java/lang/Object"))), Jvm.Cond.code ({ cls := "java/lang/Math", name := "min", desc := "(II)I" } : Jvm.MethodName) jdk_29_method_69_code (2 : Nat) (Option.some Jvm.ClassFile.FieldType.int), Jvm.Cond.code ({ cls := "com/example/wayfare/wayfare/market/Good", name := "room", desc := "(Lcom/example/wayfare/wayfare/market/Hotel;I)Lcom/example/wayfare/wayfare/market/Good;" } : Jvm.MethodName) prog_50_method_4_code (2 : Nat) (Option.some (Jvm.ClassFile.FieldType.object "com/example/wayfare/wayfare/market/Good")), Jvm.Cond.code ({ cls := "java/util/ArrayList", name := "add", desc := "(Ljava/lang/Object;)Z" } : Jvm.MethodName) jdk_38_method_25_code (2 : Nat) (Option.some Jvm.ClassFile.FieldType.boolean), Jvm.Cond.code ({ cls := "java/util/ArrayList", name := "add", desc := "(Ljava/lang/Object;[Ljava/lang/Object;I)V" } : Jvm.MethodName) jdk_38_method_24_code (4 : Nat) (Option.none : Option Jvm.ClassFile.FieldType), Jvm.Cond.code ({ cls := "java/util/ArrayList", name := "grow", desc := "()[Ljava/lang/Object;" } : Jvm.MethodName) jdk_38_method_7_code (1 : Nat) (Option.some (Jvm.ClassFile.FieldType.array (Jvm.ClassFile.FieldType.object "java/lang/Object"))), Jvm.Cond.code ({ cls := "java/util/ArrayList", name := "grow", desc := "(I)[Ljava/lang/Object;" } : Jvm.MethodName) jdk_38_method_6_code (4 : Nat) (Option.some (Jvm.ClassFile.FieldType.array (Jvm.ClassFile.FieldType.object "java/lang/Object"))), Jvm.Cond.code ({ cls := "jdk/internal/util/ArraysSupport", name := "newLength", desc := "(III)I" } : Jvm.MethodName) jdk_48_method_27_code (4 : Nat) (Option.some Jvm.ClassFile.FieldType.int), Jvm.Cond.code ({ cls := "java/lang/Math", name := "max", desc := "(II)I" } : Jvm.MethodName) jdk_29_method_65_code (2 : Nat) (Option.some Jvm.ClassFile.FieldType.int), Jvm.Cond.code ({ cls := "java/util/Arrays", name := "copyOf", desc := "([Ljava/lang/Object;I)[Ljava/lang/Object;" } : Jvm.MethodName) jdk_65_method_119_code (2 : Nat) (Option.some (Jvm.ClassFile.FieldType.array (Jvm.ClassFile.FieldType.object "java/lang/Object"))), Jvm.Cond.code ({ cls := "java/util/ArrayList", name := "size", desc := "()I" } : Jvm.MethodName) jdk_38_method_8_code (1 : Nat) (Option.some Jvm.ClassFile.FieldType.int), Jvm.Cond.code ({ cls := "com/example/wayfare/wayfare/market/TripNightInTownPinLaw", name := "at", desc := "(Ljava/util/List;IILcom/example/wayfare/wayfare/market/Good;)Z" } : Jvm.MethodName) method_3_code (4 : Nat) (Option.some Jvm.ClassFile.FieldType.boolean), Jvm.Cond.code ({ cls := "java/util/ArrayList", name := "get", desc := "(I)Ljava/lang/Object;" } : Jvm.MethodName) jdk_38_method_20_code (2 : Nat) (Option.some (Jvm.ClassFile.FieldType.object "java/lang/Object")), Jvm.Cond.code ({ cls := "java/util/Objects", name := "checkIndex", desc := "(II)I" } : Jvm.MethodName) jdk_31_method_17_code (2 : Nat) (Option.some Jvm.ClassFile.FieldType.int), Jvm.Cond.code ({ cls := "jdk/internal/util/Preconditions", name := "checkIndex", desc := "(IILjava/util/function/BiFunction;)I" } : Jvm.MethodName) jdk_41_method_11_code (3 : Nat) (Option.some Jvm.ClassFile.FieldType.int), Jvm.Cond.code ({ cls := "java/util/ArrayList", name := "elementData", desc := "(I)Ljava/lang/Object;" } : Jvm.MethodName) jdk_38_method_18_code (2 : Nat) (Option.some (Jvm.ClassFile.FieldType.object "java/lang/Object"))]
set_option maxRecDepth 65536 in
theorem codes_eq : words1.filter isCode = codes1 := rfl
theorem w_codes : ∀ c ∈ words1.filter isCode, c.before args0 about1 = true := by
  rw [codes_eq]
  intro c hc
  simp only [codes1, List.mem_cons, List.not_mem_nil, or_false] at hc
  rcases hc with rfl | rfl | rfl | rfl | rfl | rfl | rfl | rfl | rfl | rfl | rfl | rfl | rfl | rfl | rfl | rfl | rfl | rfl | rfl | rfl | rfl | rfl | rfl | rfl | rfl | rfl | rfl | rfl | rfl | rfl | rfl | rfl | rfl | rfl | rfl | rfl | rfl | rfl
  · exact w_c0
  · exact w_c1
  · exact w_c2
  · exact w_c3
  · exact w_c4
  · exact w_c5
  · exact w_c6
  · exact w_c7
  · exact w_c8
  · exact w_c9
  · exact w_c10
  · exact w_c11
  · exact w_c12
  · exact w_c13
  · exact w_c14
  · exact w_c15
  · exact w_c16
  · exact w_c17
  · exact w_c18
  · exact w_c19
  · exact w_c20
  · exact w_c21
  · exact w_c22
  · exact w_c23
  · exact w_c24
  · exact w_c25
  · exact w_c26
  · exact w_c27
  · exact w_c28
  · exact w_c29
  · exact w_c30
  · exact w_c31
  · exact w_c32
  · exact w_c33
  · exact w_c34
  · exact w_c35
  · exact w_c36
  · exact w_c37
set_option maxRecDepth 65536 in
theorem w_t1 : (words1.take 24).all (fun c => isCode c || c.before args0 about1) = true := by decide +kernel
set_option maxRecDepth 65536 in
theorem w_t2 : ((words1.drop 24).take 24).all (fun c => isCode c || c.before args0 about1) = true := by decide +kernel
set_option maxRecDepth 65536 in
theorem w_t3 : (((words1.drop 24).drop 24).take 24).all (fun c => isCode c || c.before args0 about1) = true := by decide +kernel
set_option maxRecDepth 65536 in
theorem w_t4 : ((((words1.drop 24).drop 24).drop 24).take 24).all (fun c => isCode c || c.before args0 about1) = true := by decide +kernel
set_option maxRecDepth 65536 in
theorem w_t5 : (((((words1.drop 24).drop 24).drop 24).drop 24).take 24).all (fun c => isCode c || c.before args0 about1) = true := by decide +kernel
set_option maxRecDepth 65536 in
theorem w_t6 : ((((((words1.drop 24).drop 24).drop 24).drop 24).drop 24).take 24).all (fun c => isCode c || c.before args0 about1) = true := by decide +kernel
set_option maxRecDepth 65536 in
theorem w_t7 : (((((((words1.drop 24).drop 24).drop 24).drop 24).drop 24).drop 24).take 24).all (fun c => isCode c || c.before args0 about1) = true := by decide +kernel
set_option maxRecDepth 65536 in
theorem w_t8 : ((((((((words1.drop 24).drop 24).drop 24).drop 24).drop 24).drop 24).drop 24).take 24).all (fun c => isCode c || c.before args0 about1) = true := by decide +kernel
set_option maxRecDepth 65536 in
theorem w_t9 : (((((((((words1.drop 24).drop 24).drop 24).drop 24).drop 24).drop 24).drop 24).drop 24).take 24).all (fun c => isCode c || c.before args0 about1) = true := by decide +kernel
set_option maxRecDepth 65536 in
theorem w_t10 : ((((((((((words1.drop 24).drop 24).drop 24).drop 24).drop 24).drop 24).drop 24).drop 24).drop 24).take 24).all (fun c => isCode c || c.before args0 about1) = true := by decide +kernel
set_option maxRecDepth 65536 in
theorem w_t11 : (((((((((((words1.drop 24).drop 24).drop 24).drop 24).drop 24).drop 24).drop 24).drop 24).drop 24).drop 24).take 24).all (fun c => isCode c || c.before args0 about1) = true := by decide +kernel
set_option maxRecDepth 65536 in
theorem w_t12 : (((((((((((words1.drop 24).drop 24).drop 24).drop 24).drop 24).drop 24).drop 24).drop 24).drop 24).drop 24).drop 24).all (fun c => isCode c || c.before args0 about1) = true := by decide +kernel
theorem w_tables : (allAtoms (Jvm.Cond.code x code maxLocals ret :: tables_1)).before args0 about1 = true := by
  rw [allAtoms_all]
  show words1.all (fun c => c.before args0 about1) = true
  refine all_split ?_ w_codes
  rw [← List.take_append_drop 24 words1, List.all_append, w_t1, ← List.take_append_drop 24 (words1.drop 24), List.all_append, w_t2, ← List.take_append_drop 24 ((words1.drop 24).drop 24), List.all_append, w_t3, ← List.take_append_drop 24 (((words1.drop 24).drop 24).drop 24), List.all_append, w_t4, ← List.take_append_drop 24 ((((words1.drop 24).drop 24).drop 24).drop 24), List.all_append, w_t5, ← List.take_append_drop 24 (((((words1.drop 24).drop 24).drop 24).drop 24).drop 24), List.all_append, w_t6, ← List.take_append_drop 24 ((((((words1.drop 24).drop 24).drop 24).drop 24).drop 24).drop 24), List.all_append, w_t7, ← List.take_append_drop 24 (((((((words1.drop 24).drop 24).drop 24).drop 24).drop 24).drop 24).drop 24), List.all_append, w_t8, ← List.take_append_drop 24 ((((((((words1.drop 24).drop 24).drop 24).drop 24).drop 24).drop 24).drop 24).drop 24), List.all_append, w_t9, ← List.take_append_drop 24 (((((((((words1.drop 24).drop 24).drop 24).drop 24).drop 24).drop 24).drop 24).drop 24).drop 24), List.all_append, w_t10, ← List.take_append_drop 24 ((((((((((words1.drop 24).drop 24).drop 24).drop 24).drop 24).drop 24).drop 24).drop 24).drop 24).drop 24), List.all_append, w_t11, w_t12]
  rfl
set_option maxRecDepth 65536 in
theorem w_rest : rest_1_c.before args0 about1 = true := by decide +kernel
set_option maxRecDepth 65536 in
theorem w_case : (Jvm.Cond.and given_1 narrow_1).before args0 about1 = true := by decide +kernel
theorem w_applies : (headSpec (Jvm.Cond.code x code maxLocals ret :: tables_1) room_1).applies x e0.platform about1 = true :=
  (Spec.applies_iff w_frames).mpr ⟨w_running, w_runnable, w_alone, w_named, w_hears, w_ripe, w_room, w_tables⟩
theorem atStart : AtStart classFile x code maxLocals ret World_1 tables_1 room_1 Calls_1 rest_1 Pre_1 launch0 p0 e0 about1 theMethod args0 below0 :=
  ⟨lists_1, trivial, launch0.admits_env _ _ _, launch0.least_env, fairChoices_fair.cas, fairChoices_fair.clock, w_frames, w_args, w_heap, w_applies, ⟨⟨27, k27, 4, by decide +kernel, rfl, rfl, _, rfl, rfl⟩, ⟨⟨21, k21, 5, by decide +kernel, rfl, rfl, _, rfl, rfl⟩, ⟨⟨39, k39, 6, by decide +kernel, rfl, rfl, _, rfl, rfl⟩, trivial⟩⟩⟩, w_rest, w_case⟩
end start1
theorem witness_1 : WitnessClaimed_1 := ⟨start1.p0, start1.e0, start1.about1, start1.theMethod, start1.args0, start1.below0, start1.atStart⟩
end Jvm.Pilot.@@N@@
