import JvmDerived
import JvmDerived.Pilot.@@N@@Statement
import JvmDerived.Pilot.@@N@@Code
set_option linter.unusedVariables false
set_option linter.unusedSimpArgs false
namespace Jvm.RoadKit
open Sem ClassFile Op Lib Jvm.Stand Jvm.Free Jvm.LawKit
section New
variable {p : Program} {l : Launch} {e : Env} {R : Room} {s : State} {m : MethodId} {args : Array Value} {below : List Frame} {meth : Method} {c : Code} {T T' : State} {locs : List Loc} {cells slots : Nat}
theorem retI (X : Stand p l e R s m args below meth c T locs cells slots) (hx : p.tables.exec = Jvm.exec) {pc : Nat} {Ls : Array Slot} {z : Int32} {rest : List Value} (hret : meth.sig.returnType = some .int) (hd : decode c.code pc = .ok (.ireturn, 1)) {fs : List Frame}
    (hl : ∀ (f : JFrame) (acts : List Action), f.method = m → f.locked = none → f.entered = [] → (doReturn e (T.setTop f) acts (some (.int z))).1 = T.setFrames fs) : Steps p.tables e below (T.setTop (mkF m pc Ls (.int z :: rest))) (T.setFrames fs) := by
  have hm' : T.vm.method? m = some meth := X.method'
  have hn : narrow .int (.int z) = .int z := rfl
  show Steps p.tables e below (T.setTop { method := m, pc := pc, locals := Ls, stack := _ :: rest, locked := none }) _
  jvm_step X.here [X.here.top, hx, hd, hm', hret, hn]
  first | (intro acts; rw [hl _ acts rfl rfl rfl]) | rw [hl _ _ rfl rfl rfl]
  exact Steps.refl _
/-- from here the run comes to its return, and Q holds of what it returns, of the heap and of what it wrote -/
def Go (p : Program) (e : Env) (below : List Frame) (s : State) (Q : Option Value → Heap → List Loc → Prop) (kc ks : Nat) (T : State) (g : JFrame) : Prop :=
  ∃ s₂ o, Steps p.tables e below (T.setTop g) s₂ ∧ s₂.status = .running ∧ Ended s₂ below o ∧ ∃ v L, o = .returned v ∧ Q v s₂.heap L ∧ FrameEnd s o s₂ L kc ks
variable {Q : Option Value → Heap → List Loc → Prop} {kc ks : Nat} {g g' : JFrame}
theorem Go.step (h : ∀ t, Steps p.tables e below (T'.setTop g') t → Steps p.tables e below (T.setTop g) t) (k : Go p e below s Q kc ks T' g') : Go p e below s Q kc ks T g := by
  obtain ⟨s₂, o, h1, r⟩ := k
  exact ⟨s₂, o, h _ h1, r⟩
theorem Go.cast (q : g = g') (k : Go p e below s Q kc ks T g') : Go p e below s Q kc ks T g := q ▸ k
theorem Go.done (X : Stand p l e R s m args below meth c T locs cells slots) (hlocks : meth.locks = false) {v : Option Value} (hv : meth.sig.returnType = none → v = none)
    (hret : ∀ fs, (∀ (f : JFrame) (acts : List Action), f.method = m → f.locked = none → f.entered = [] → (doReturn e (T.setTop f) acts v).1 = T.setFrames fs) → Steps p.tables e below (T.setTop g) (T.setFrames fs))
    {h : Heap} (eT : T.heap = h) (hQ : Q v h locs) (hc : cells ≤ kc) (hs : slots ≤ ks) : Go p e below s Q kc ks T g := by
  obtain ⟨fs, hr, hrun, hended, hW, hsame⟩ := X.leave hv hlocks
  refine ⟨_, _, hret fs hr, hrun, hended, _, _, rfl, ?_, ⟨_, rfl⟩, hW, hsame.mono hc hs⟩
  show Q v T.heap locs
  rw [eT]
  exact hQ
theorem Go.retV (X : Stand p l e R s m args below meth c T locs cells slots) (hx : p.tables.exec = Jvm.exec) (hlocks : meth.locks = false) (hr : meth.sig.returnType = none) {pc : Nat} {Ls : Array Slot} (hd : decode c.code pc = .ok (.return_, 1))
    {h : Heap} (eT : T.heap = h) (hQ : Q none h locs) (hc : cells ≤ kc) (hs : slots ≤ ks) : Go p e below s Q kc ks T (mkF m pc Ls []) :=
  Go.done X hlocks (fun _ => rfl) (fun fs k => X.returnOut hx hr hd k) eT hQ hc hs
theorem Go.retN (X : Stand p l e R s m args below meth c T locs cells slots) (hx : p.tables.exec = Jvm.exec) (hlocks : meth.locks = false) {t : FieldType} (hr : meth.sig.returnType = some t) (ht : t = .boolean ∨ t = .byte ∨ t = .char ∨ t = .short) {pc : Nat} {Ls : Array Slot} {z : Int32} {st : List Value} (hd : decode c.code pc = .ok (.ireturn, 1))
    {h : Heap} (eT : T.heap = h) (hQ : Q (some (.int (nar t z))) h locs) (hc : cells ≤ kc) (hs : slots ≤ ks) : Go p e below s Q kc ks T (mkF m pc Ls (.int z :: st)) :=
  Go.done X hlocks (fun q => by rw [hr] at q; cases q) (fun fs k => Jvm.RoadKit.retN X hx hr ht hd k) eT hQ hc hs
theorem Go.retI (X : Stand p l e R s m args below meth c T locs cells slots) (hx : p.tables.exec = Jvm.exec) (hlocks : meth.locks = false) (hr : meth.sig.returnType = some .int) {pc : Nat} {Ls : Array Slot} {z : Int32} {st : List Value} (hd : decode c.code pc = .ok (.ireturn, 1))
    {h : Heap} (eT : T.heap = h) (hQ : Q (some (.int z)) h locs) (hc : cells ≤ kc) (hs : slots ≤ ks) : Go p e below s Q kc ks T (mkF m pc Ls (.int z :: st)) :=
  Go.done X hlocks (fun q => by rw [hr] at q; cases q) (fun fs k => Jvm.RoadKit.retI X hx hr hd k) eT hQ hc hs
theorem Go.retJ (X : Stand p l e R s m args below meth c T locs cells slots) (hx : p.tables.exec = Jvm.exec) (hlocks : meth.locks = false) (hr : meth.sig.returnType = some .long) {pc : Nat} {Ls : Array Slot} {z : Int64} {st : List Value} (hd : decode c.code pc = .ok (.lreturn, 1))
    {h : Heap} (eT : T.heap = h) (hQ : Q (some (.long z)) h locs) (hc : cells ≤ kc) (hs : slots ≤ ks) : Go p e below s Q kc ks T (mkF m pc Ls (.long z :: st)) :=
  Go.done X hlocks (fun q => by rw [hr] at q; cases q) (fun fs k => retOut X hx hr rfl (Or.inr (Or.inl ⟨rfl, rfl, _, rfl⟩)) hd k) eT hQ hc hs
theorem Go.retA (X : Stand p l e R s m args below meth c T locs cells slots) (hx : p.tables.exec = Jvm.exec) (hlocks : meth.locks = false) {t : FieldType} (hr : meth.sig.returnType = some t) (ht : t.isReference = true) {w : Value} (hw : w.isRef = true) {pc : Nat} {Ls : Array Slot} {st : List Value} (hd : decode c.code pc = .ok (.areturn, 1))
    {h : Heap} (eT : T.heap = h) (hQ : Q (some w) h locs) (hc : cells ≤ kc) (hs : slots ≤ ks) : Go p e below s Q kc ks T (mkF m pc Ls (w :: st)) :=
  Go.done X hlocks (fun q => by rw [hr] at q; cases q) (fun fs k => retOut X hx hr (by cases t <;> first | (cases ht; done) | (rcases ref_cases hw with rfl | ⟨a, rfl⟩ <;> rfl)) (Or.inr (Or.inr (Or.inr (Or.inr ⟨rfl, ht, hw⟩)))) hd k) eT hQ hc hs
/-- .. where String constants may have been loaded on the way -/
def GoW (p : Program) (e : Env) (below : List Frame) (s : State) (Q : Option Value → Heap → List Loc → Prop) (kc ks : Nat) (T : State) (g : JFrame) : Prop :=
  ∃ s₂ o, Steps p.tables e below (T.setTop g) s₂ ∧ s₂.status = .running ∧ Ended s₂ below o ∧ ∃ v L, o = .returned v ∧ Q v s₂.heap L ∧ ReturnedEndW s o s₂ L kc ks
theorem GoW.step (h : ∀ t, Steps p.tables e below (T'.setTop g') t → Steps p.tables e below (T.setTop g) t) (k : GoW p e below s Q kc ks T' g') : GoW p e below s Q kc ks T g := by
  obtain ⟨s₂, o, h1, r⟩ := k
  exact ⟨s₂, o, h _ h1, r⟩
theorem GoW.cast (q : g = g') (k : GoW p e below s Q kc ks T g') : GoW p e below s Q kc ks T g := q ▸ k
theorem GoW.done {vm1 : Vm} {n : Nat} (X : Stand p l e R (s.setVm vm1) m args below meth c T locs cells slots) (hS : s.Since vm1 n) (hlocks : meth.locks = false) {v : Option Value} (hv : meth.sig.returnType = none → v = none)
    (hret : ∀ fs, (∀ (f : JFrame) (acts : List Action), f.method = m → f.locked = none → f.entered = [] → (doReturn e (T.setTop f) acts v).1 = T.setFrames fs) → Steps p.tables e below (T.setTop g) (T.setFrames fs))
    {h : Heap} (eT : T.heap = h) (hn : n ≤ h.size) (hQ : Q v h locs) (hc : cells ≤ kc) (hs : slots ≤ ks) : GoW p e below s Q kc ks T g := by
  obtain ⟨fs, hr, hrun, hended, hW⟩ := X.leaveW hS (by rw [eT]; exact hn) hv hlocks
  refine ⟨_, _, hret fs hr, hrun, hended, _, _, rfl, ?_, hW.1, hW.2.1, hW.2.2.1, hW.2.2.2.mono hc hs⟩
  show Q v T.heap locs
  rw [eT]
  exact hQ
theorem GoW.retV {vm1 : Vm} {n : Nat} (X : Stand p l e R (s.setVm vm1) m args below meth c T locs cells slots) (hS : s.Since vm1 n) (hx : p.tables.exec = Jvm.exec) (hlocks : meth.locks = false) (hr : meth.sig.returnType = none) {pc : Nat} {Ls : Array Slot} (hd : decode c.code pc = .ok (.return_, 1))
    {h : Heap} (eT : T.heap = h) (hn : n ≤ h.size) (hQ : Q none h locs) (hc : cells ≤ kc) (hs : slots ≤ ks) : GoW p e below s Q kc ks T (mkF m pc Ls []) :=
  GoW.done X hS hlocks (fun _ => rfl) (fun fs k => X.returnOut hx hr hd k) eT hn hQ hc hs
theorem GoW.retN {vm1 : Vm} {n : Nat} (X : Stand p l e R (s.setVm vm1) m args below meth c T locs cells slots) (hS : s.Since vm1 n) (hx : p.tables.exec = Jvm.exec) (hlocks : meth.locks = false) {t : FieldType} (hr : meth.sig.returnType = some t) (ht : t = .boolean ∨ t = .byte ∨ t = .char ∨ t = .short) {pc : Nat} {Ls : Array Slot} {z : Int32} {st : List Value} (hd : decode c.code pc = .ok (.ireturn, 1))
    {h : Heap} (eT : T.heap = h) (hn : n ≤ h.size) (hQ : Q (some (.int (nar t z))) h locs) (hc : cells ≤ kc) (hs : slots ≤ ks) : GoW p e below s Q kc ks T (mkF m pc Ls (.int z :: st)) :=
  GoW.done X hS hlocks (fun q => by rw [hr] at q; cases q) (fun fs k => Jvm.RoadKit.retN X hx hr ht hd k) eT hn hQ hc hs
theorem GoW.retI {vm1 : Vm} {n : Nat} (X : Stand p l e R (s.setVm vm1) m args below meth c T locs cells slots) (hS : s.Since vm1 n) (hx : p.tables.exec = Jvm.exec) (hlocks : meth.locks = false) (hr : meth.sig.returnType = some .int) {pc : Nat} {Ls : Array Slot} {z : Int32} {st : List Value} (hd : decode c.code pc = .ok (.ireturn, 1))
    {h : Heap} (eT : T.heap = h) (hn : n ≤ h.size) (hQ : Q (some (.int z)) h locs) (hc : cells ≤ kc) (hs : slots ≤ ks) : GoW p e below s Q kc ks T (mkF m pc Ls (.int z :: st)) :=
  GoW.done X hS hlocks (fun q => by rw [hr] at q; cases q) (fun fs k => Jvm.RoadKit.retI X hx hr hd k) eT hn hQ hc hs
theorem GoW.retJ {vm1 : Vm} {n : Nat} (X : Stand p l e R (s.setVm vm1) m args below meth c T locs cells slots) (hS : s.Since vm1 n) (hx : p.tables.exec = Jvm.exec) (hlocks : meth.locks = false) (hr : meth.sig.returnType = some .long) {pc : Nat} {Ls : Array Slot} {z : Int64} {st : List Value} (hd : decode c.code pc = .ok (.lreturn, 1))
    {h : Heap} (eT : T.heap = h) (hn : n ≤ h.size) (hQ : Q (some (.long z)) h locs) (hc : cells ≤ kc) (hs : slots ≤ ks) : GoW p e below s Q kc ks T (mkF m pc Ls (.long z :: st)) :=
  GoW.done X hS hlocks (fun q => by rw [hr] at q; cases q) (fun fs k => retOut X hx hr rfl (Or.inr (Or.inl ⟨rfl, rfl, _, rfl⟩)) hd k) eT hn hQ hc hs
theorem GoW.retA {vm1 : Vm} {n : Nat} (X : Stand p l e R (s.setVm vm1) m args below meth c T locs cells slots) (hS : s.Since vm1 n) (hx : p.tables.exec = Jvm.exec) (hlocks : meth.locks = false) {t : FieldType} (hr : meth.sig.returnType = some t) (ht : t.isReference = true) {w : Value} (hw : w.isRef = true) {pc : Nat} {Ls : Array Slot} {st : List Value} (hd : decode c.code pc = .ok (.areturn, 1))
    {h : Heap} (eT : T.heap = h) (hn : n ≤ h.size) (hQ : Q (some w) h locs) (hc : cells ≤ kc) (hs : slots ≤ ks) : GoW p e below s Q kc ks T (mkF m pc Ls (w :: st)) :=
  GoW.done X hS hlocks (fun q => by rw [hr] at q; cases q) (fun fs k => retOut X hx hr (by cases t <;> first | (cases ht; done) | (rcases ref_cases hw with rfl | ⟨a, rfl⟩ <;> rfl)) (Or.inr (Or.inr (Or.inr (Or.inr ⟨rfl, ht, hw⟩)))) hd k) eT hn hQ hc hs
/-- .. and read -/
def GoH (p : Program) (e : Env) (below : List Frame) (s : State) (Q : (Option Value → Heap → List Loc → Prop) × (Vm → Heap → Prop)) (kc ks : Nat) (T : State) (g : JFrame) : Prop :=
  ∃ s₂ o, Steps p.tables e below (T.setTop g) s₂ ∧ s₂.status = .running ∧ Ended s₂ below o ∧ ∃ v L, o = .returned v ∧ Q.1 v s₂.heap L ∧ Q.2 s₂.vm s₂.heap ∧ ReturnedEndW s o s₂ L kc ks
theorem GoH.step {Q : (Option Value → Heap → List Loc → Prop) × (Vm → Heap → Prop)} (h : ∀ t, Steps p.tables e below (T'.setTop g') t → Steps p.tables e below (T.setTop g) t) (k : GoH p e below s Q kc ks T' g') : GoH p e below s Q kc ks T g := by
  obtain ⟨s₂, o, h1, r⟩ := k
  exact ⟨s₂, o, h _ h1, r⟩
theorem GoH.cast {Q : (Option Value → Heap → List Loc → Prop) × (Vm → Heap → Prop)} (q : g = g') (k : GoH p e below s Q kc ks T g') : GoH p e below s Q kc ks T g := q ▸ k
theorem GoH.done {Q : (Option Value → Heap → List Loc → Prop) × (Vm → Heap → Prop)} {vm1 : Vm} {n : Nat} (X : Stand p l e R (s.setVm vm1) m args below meth c T locs cells slots) (hS : s.Since vm1 n) (hlocks : meth.locks = false) {v : Option Value} (hv : meth.sig.returnType = none → v = none)
    (hret : ∀ fs, (∀ (f : JFrame) (acts : List Action), f.method = m → f.locked = none → f.entered = [] → (doReturn e (T.setTop f) acts v).1 = T.setFrames fs) → Steps p.tables e below (T.setTop g) (T.setFrames fs))
    {h : Heap} (eT : T.heap = h) (hn : n ≤ h.size) (hQ : Q.1 v h locs) (hY : Q.2 T.vm h) (hc : cells ≤ kc) (hs : slots ≤ ks) : GoH p e below s Q kc ks T g := by
  obtain ⟨fs, hr, hrun, hended, hW⟩ := X.leaveW hS (by rw [eT]; exact hn) hv hlocks
  refine ⟨_, _, hret fs hr, hrun, hended, _, _, rfl, ?_, ?_, hW.1, hW.2.1, hW.2.2.1, hW.2.2.2.mono hc hs⟩
  · show Q.1 v T.heap locs
    rw [eT]
    exact hQ
  · show Q.2 T.vm T.heap
    rw [eT]
    exact hY
theorem GoH.retV {Q : (Option Value → Heap → List Loc → Prop) × (Vm → Heap → Prop)} {vm1 : Vm} {n : Nat} (X : Stand p l e R (s.setVm vm1) m args below meth c T locs cells slots) (hS : s.Since vm1 n) (hx : p.tables.exec = Jvm.exec) (hlocks : meth.locks = false) (hr : meth.sig.returnType = none) {pc : Nat} {Ls : Array Slot} (hd : decode c.code pc = .ok (.return_, 1))
    {h : Heap} (eT : T.heap = h) (hn : n ≤ h.size) (hQ : Q.1 none h locs) (hY : Q.2 T.vm h) (hc : cells ≤ kc) (hs : slots ≤ ks) : GoH p e below s Q kc ks T (mkF m pc Ls []) :=
  GoH.done X hS hlocks (fun _ => rfl) (fun fs k => X.returnOut hx hr hd k) eT hn hQ hY hc hs
theorem GoH.retN {Q : (Option Value → Heap → List Loc → Prop) × (Vm → Heap → Prop)} {vm1 : Vm} {n : Nat} (X : Stand p l e R (s.setVm vm1) m args below meth c T locs cells slots) (hS : s.Since vm1 n) (hx : p.tables.exec = Jvm.exec) (hlocks : meth.locks = false) {t : FieldType} (hr : meth.sig.returnType = some t) (ht : t = .boolean ∨ t = .byte ∨ t = .char ∨ t = .short) {pc : Nat} {Ls : Array Slot} {z : Int32} {st : List Value} (hd : decode c.code pc = .ok (.ireturn, 1))
    {h : Heap} (eT : T.heap = h) (hn : n ≤ h.size) (hQ : Q.1 (some (.int (nar t z))) h locs) (hY : Q.2 T.vm h) (hc : cells ≤ kc) (hs : slots ≤ ks) : GoH p e below s Q kc ks T (mkF m pc Ls (.int z :: st)) :=
  GoH.done X hS hlocks (fun q => by rw [hr] at q; cases q) (fun fs k => Jvm.RoadKit.retN X hx hr ht hd k) eT hn hQ hY hc hs
theorem GoH.retI {Q : (Option Value → Heap → List Loc → Prop) × (Vm → Heap → Prop)} {vm1 : Vm} {n : Nat} (X : Stand p l e R (s.setVm vm1) m args below meth c T locs cells slots) (hS : s.Since vm1 n) (hx : p.tables.exec = Jvm.exec) (hlocks : meth.locks = false) (hr : meth.sig.returnType = some .int) {pc : Nat} {Ls : Array Slot} {z : Int32} {st : List Value} (hd : decode c.code pc = .ok (.ireturn, 1))
    {h : Heap} (eT : T.heap = h) (hn : n ≤ h.size) (hQ : Q.1 (some (.int z)) h locs) (hY : Q.2 T.vm h) (hc : cells ≤ kc) (hs : slots ≤ ks) : GoH p e below s Q kc ks T (mkF m pc Ls (.int z :: st)) :=
  GoH.done X hS hlocks (fun q => by rw [hr] at q; cases q) (fun fs k => Jvm.RoadKit.retI X hx hr hd k) eT hn hQ hY hc hs
theorem GoH.retJ {Q : (Option Value → Heap → List Loc → Prop) × (Vm → Heap → Prop)} {vm1 : Vm} {n : Nat} (X : Stand p l e R (s.setVm vm1) m args below meth c T locs cells slots) (hS : s.Since vm1 n) (hx : p.tables.exec = Jvm.exec) (hlocks : meth.locks = false) (hr : meth.sig.returnType = some .long) {pc : Nat} {Ls : Array Slot} {z : Int64} {st : List Value} (hd : decode c.code pc = .ok (.lreturn, 1))
    {h : Heap} (eT : T.heap = h) (hn : n ≤ h.size) (hQ : Q.1 (some (.long z)) h locs) (hY : Q.2 T.vm h) (hc : cells ≤ kc) (hs : slots ≤ ks) : GoH p e below s Q kc ks T (mkF m pc Ls (.long z :: st)) :=
  GoH.done X hS hlocks (fun q => by rw [hr] at q; cases q) (fun fs k => retOut X hx hr rfl (Or.inr (Or.inl ⟨rfl, rfl, _, rfl⟩)) hd k) eT hn hQ hY hc hs
theorem GoH.retA {Q : (Option Value → Heap → List Loc → Prop) × (Vm → Heap → Prop)} {vm1 : Vm} {n : Nat} (X : Stand p l e R (s.setVm vm1) m args below meth c T locs cells slots) (hS : s.Since vm1 n) (hx : p.tables.exec = Jvm.exec) (hlocks : meth.locks = false) {t : FieldType} (hr : meth.sig.returnType = some t) (ht : t.isReference = true) {w : Value} (hw : w.isRef = true) {pc : Nat} {Ls : Array Slot} {st : List Value} (hd : decode c.code pc = .ok (.areturn, 1))
    {h : Heap} (eT : T.heap = h) (hn : n ≤ h.size) (hQ : Q.1 (some w) h locs) (hY : Q.2 T.vm h) (hc : cells ≤ kc) (hs : slots ≤ ks) : GoH p e below s Q kc ks T (mkF m pc Ls (w :: st)) :=
  GoH.done X hS hlocks (fun q => by rw [hr] at q; cases q) (fun fs k => retOut X hx hr (by cases t <;> first | (cases ht; done) | (rcases ref_cases hw with rfl | ⟨a, rfl⟩ <;> rfl)) (Or.inr (Or.inr (Or.inr (Or.inr ⟨rfl, ht, hw⟩)))) hd k) eT hn hQ hY hc hs
end New
end Jvm.RoadKit
namespace Jvm.Pilot.@@N@@
open Jvm Jvm.ClassFile Sem Op Lib Jvm.Free Jvm.Stand Jvm.LawKit Jvm.RoadKit Bundle Jvm.Pilot.@@N@@.Jvm.D

section OwnH
variable {Z : State} {a0 : Array Value} {EL : List (String × Nat)} {vm vm1 vm2 : Vm} {h h1 h2 : Heap} {x : Addr} {k : ClassId} {z : Int32} {vs : List Value} {dv : Value} {ws : List Addr}
theorem own_chE (A : CHr Z EL vm h vm1 h1) (E : Ext h1 h2) : CHr Z EL vm h vm1 h2 := A.trans (CHr.ext E A.1)
theorem own_chW {a : Addr} {sl : Nat} {v : Value} (A : CHr Z EL vm h vm1 h1) (W : Wr h1 h2 a sl v) (S : Safe Z EL vm1 h1 a) : CHr Z EL vm h vm1 h2 := A.trans (CHr.wr W S A.1)
theorem own_chK (A : CHr Z EL vm h vm1 h1) (K : Keep h1 h2 ws) (S : ∀ x ∈ ws, Safe Z EL vm1 h1 x) : CHr Z EL vm h vm1 h2 := A.trans (CHr.keep K S A.1)
/-- no text of EL has n signs -/
def own_Not (Z : State) (a0 : Array Value) (EL : List (String × Nat)) (n : Nat) : Prop := ∀ p ∈ EL, ∃ text : String, (Cond.stringLink p.1 p.2 text).before a0 Z = true ∧ (∀ c ∈ text.toList, c.toNat < 256) ∧ text.toList.length ≠ n
theorem own_Not.nil {n : Nat} : own_Not Z a0 [] n := fun _ hp => by cases hp
theorem own_Not.cons {own text : String} {index n : Nat} (w : (Cond.stringLink own index text).before a0 Z = true) (ht : ∀ c ∈ text.toList, c.toNat < 256) (hn : text.toList.length ≠ n) (E : own_Not Z a0 EL n) : own_Not Z a0 ((own, index) :: EL) n := fun p hp => by
  rcases List.mem_cons.mp hp with rfl | hp
  · exact ⟨text, w, ht, hn⟩
  · exact E p hp
theorem own_safeL (hZ : Z.Warmed39 vm) (w : own_Not Z a0 EL z.toNatClampNeg) (F : Arv Z h x k .byte z vs dv) : Safe Z EL vm h x := fun B => by
  have hal := hZ.alike
  obtain ⟨cl, A, -, Sz, -⟩ := F
  obtain ⟨A1, ⟨-, kA, hkA, compA, hkindA⟩, -⟩ := A
  obtain ⟨kA', hkA', ekA⟩ := hal.2.2 _ _ hkA
  obtain ⟨p, hp, u, a, hb, q, -, F, rfl | rfl⟩ := B
  · cases (show h[q.sa]? = some q.sC from F.ha).symm.trans A1
    obtain ⟨cS, ⟨-, -, e⟩, ⟨kS, g1, g2, -⟩, -⟩ := F
    subst e
    cases (show vm.classes[q.sC.cls]? = some kS from g1).symm.trans hkA'
    rw [ekA] at g2
    have := hkindA.symm.trans g2
    cases this
  · cases (show h[q.sd]? = some q.SA from F.hd).symm.trans A1
    obtain ⟨cS, -, -, -, hsl⟩ := F
    obtain ⟨text, wl, ht, hn⟩ := w p hp
    obtain ⟨c, k', cf, i, hc', hk', hcf', hpool, hu, -⟩ := hb
    have wl' : (Cond.stringLink p.1 p.2 text).before a0 (Wst Z vm h) = true := mvS (s := { Z with heap := h }) hZ wl
    obtain ⟨k0, cf0, i0, units0, hk, hcf, hp0, hu0, hnm, htext, -⟩ := Cond.stringLink_spec (s := Wst Z vm h) hc' wl'
    cases hk'.symm.trans hk
    cases hcf'.symm.trans hcf
    cases hpool.symm.trans hp0
    cases hu.symm.trans hu0
    have hlat := Jvm.ClassFile.lat_of_text htext ht
    have eu := Jvm.ClassFile.units_of_text htext ht
    rw [hsl, SBG.stringBytes_lat hlat] at Sz
    have e1 : u.size = text.toList.length := by rw [← Array.length_toList, eu]; simp
    apply hn
    rw [← e1, ← Sz]
    simp
theorem own_safeN (hal : Z.vm.Alike vm) (F : Fld Z h x "java/lang/String" "value" "[B" .null) (E : Exa Z h x "java/lang/String") : Safe Z EL vm h x := fun B => by
  obtain ⟨cell, c, kk, i, f, e1, e2, e3, e4, e5, e6, e7⟩ := F
  obtain ⟨p, hp, u, a, hb, q, -, F, rfl | rfl⟩ := B
  · cases (show h[q.sa]? = some q.sC from F.ha).symm.trans e1
    obtain ⟨cS, ⟨⟨-, -, -, ⟨c1, k1, i1, f1, -⟩, -, -, -, v1, -⟩, -⟩, -⟩ := F
    obtain ⟨k3, e3', -⟩ := State.fieldFound?_setVm (s := Z) hal e2
    have e4' := (show (Wst Z vm h).fieldFound? _ _ _ = _ from e3').symm.trans f1
    simp only [Option.some.injEq, Prod.mk.injEq] at e4'
    rw [← e4'.2.2.2, e7] at v1
    simp at v1
  · cases (show h[q.sd]? = some q.SA from F.hd).symm.trans e1
    obtain ⟨cell2, k2, g1, g2, g3, g4, g5⟩ := E
    cases g1.symm.trans e1
    obtain ⟨cS, ⟨⟨-, -, -, -, -, -, -, -, -, -, ⟨-, kB, hkB, compB, hkindB⟩, -⟩, -, -⟩, -, hB, -⟩ := F
    obtain ⟨kz, q1, q2⟩ := Vm.findClass_spec hB
    rw [← hal.findClass] at g2
    obtain ⟨kz', q1', q2'⟩ := Vm.findClass_spec g2
    cases q1.symm.trans q1'
    exact absurd (q2.symm.trans q2') (by decide)
end OwnH
theorem own_nf {s : State} {args : Array Value} {C : String} {x y z : MethodName} (w : (Cond.selects C x z).before args s = true) (e : z.cls = y.cls) : NotFace s y := fun r0 h0 => by
  obtain ⟨c2, r2, m2, q1, q2, q3, q4, kP, hkP, hkPi⟩ := Cond.selects_spec w
  have f1 := findClass_of_methodNamed h0
  have f2 := findClass_of_methodNamed q3
  rw [e, f1] at f2
  have f3 : r0.cls = m2.cls := Option.some.inj f2
  exact ⟨kP, by rw [f3]; exact hkP, hkPi⟩
theorem own_same {s : State} {args : Array Value} {C : String} {x y z : MethodName} (wi : (Cond.instanceMethod y).before args s = true) (w : (Cond.selects C x z).before args s = true) (e : z.cls = y.cls) (hp : y.cls ≠ "java/lang/invoke/MethodHandle" ∧ y.cls ≠ "java/lang/invoke/VarHandle") : (Cond.sameMethod y.cls y.cls y.name y.desc).before args s = true := by
  obtain ⟨mk, methM, hnamed, -, -, -⟩ := Cond.instanceMethod_spec wi
  obtain ⟨kr, h1, h2⟩ := own_nf w e mk hnamed
  have f1 := findClass_of_methodNamed hnamed
  have hf := State.methodFound?_of_named hnamed hp
  simp [Cond.before, Cond.holds, Cond.value, f1, hf, hnamed, h1, h2]
theorem own_selP {s : State} {args : Array Value} {y : MethodName} {n : Nat} (wi : (Cond.instantiable y.cls n).before args s = true) (hp : s.PrivateAt y) (hinst : (Cond.instanceMethod y).before args s = true) (hy : y.cls ≠ "java/lang/invoke/MethodHandle" ∧ y.cls ≠ "java/lang/invoke/VarHandle") : (Cond.selects y.cls y y).before args s = true := by
  obtain ⟨c, k, h1, h2, -, h4, -⟩ := Cond.instantiable_spec wi
  exact Jvm.Stand.selects_self_of_private h1 h2 (by simp only [Bool.or_eq_false_iff] at h4; exact h4.1) hp hinst hy
theorem own_selQ {s : State} {args : Array Value} {y : MethodName} {C : String} (w : (Cond.selects C y y).before args s = true) (hp : s.PrivateAt y) (hinst : (Cond.instanceMethod y).before args s = true) (hy : y.cls ≠ "java/lang/invoke/MethodHandle" ∧ y.cls ≠ "java/lang/invoke/VarHandle") : (Cond.selects y.cls y y).before args s = true := by
  obtain ⟨mk, methM, hnamed, -, -, -⟩ := Cond.instanceMethod_spec hinst
  obtain ⟨kr, h1, h2⟩ := notFace_of_selects w mk hnamed
  exact Jvm.Stand.selects_self_of_private (findClass_of_methodNamed hnamed) h1 h2 hp hinst hy
def own_cp (vd : List Value) (dp : Int32) (vs : List Value) (sp nn : Int32) (dv : Value) : List Value := vd.take dp.toNatClampNeg ++ ((List.range nn.toNatClampNeg).map fun i => vs.getD (sp.toNatClampNeg + i) dv) ++ vd.drop (dp.toNatClampNeg + nn.toNatClampNeg)
def own_rep (n : Int32) (dv : Value) : List Value := List.replicate n.toNatClampNeg dv
theorem own_c1 (x : Int32) : ¬ (255 : Int32) < (x &&& (255 : Int32)).toUInt32.toUInt16.toUInt32.toInt32 := by
  rw [i2c_mask]
  have h := c_and x (255 : Int32) (by decide)
  have h2 : (x &&& (255 : Int32)).toInt ≤ 255 := h.2
  rw [Int32.lt_iff_toInt_lt]
  show ¬ (255 : Int) < _
  omega
theorem own_c2 (x : Int32) : ¬ (255 : Int32) < nar .char ((x &&& (255 : Int32)).toUInt32.toUInt16.toUInt32.toInt32) := by
  rw [i2c_mask]
  exact own_c1 x
theorem own_m3 (x : Int32) : (x &&& (3 : Int32)) % (3 : Int32) = (0 : Int32) ∨ (x &&& (3 : Int32)) % (3 : Int32) = (1 : Int32) ∨ (x &&& (3 : Int32)) % (3 : Int32) = (2 : Int32) := by
  have h := c_and x (3 : Int32) (by decide)
  have r := (c_irem (x &&& (3 : Int32)) (3 : Int32) 3 rfl).1 h.1
  simp only [← Int32.toInt_inj]
  rw [r]
  show _ = 0 ∨ _ = 1 ∨ _ = 2
  omega
theorem d28_0 : decode jdk_29_method_69_code 0 = .ok (.iload_n 0, 1) := by decide +kernel
theorem d28_1 : decode jdk_29_method_69_code 1 = .ok (.iload_n 1, 1) := by decide +kernel
theorem d28_2 : decode jdk_29_method_69_code 2 = .ok (.if_icmp .gt 7, 3) := by decide +kernel
theorem d28_9 : decode jdk_29_method_69_code 9 = .ok (.iload_n 1, 1) := by decide +kernel
theorem d28_10 : decode jdk_29_method_69_code 10 = .ok (.ireturn, 1) := by decide +kernel
theorem d6_0 : decode jdk_30_method_1_code 0 = .ok (.aload_n 0, 1) := by decide +kernel
theorem d6_1 : decode jdk_30_method_1_code 1 = .ok (.invokespecial 1, 3) := by decide +kernel
theorem d6_4 : decode jdk_30_method_1_code 4 = .ok (.return_, 1) := by decide +kernel
theorem d0_0 : decode jdk_41_method_11_code 0 = .ok (.iload_n 0, 1) := by decide +kernel
theorem d0_1 : decode jdk_41_method_11_code 1 = .ok (.ifCond .lt 8, 3) := by decide +kernel
theorem d0_4 : decode jdk_41_method_11_code 4 = .ok (.iload_n 0, 1) := by decide +kernel
theorem d0_5 : decode jdk_41_method_11_code 5 = .ok (.iload_n 1, 1) := by decide +kernel
theorem d0_6 : decode jdk_41_method_11_code 6 = .ok (.if_icmp .lt 10, 3) := by decide +kernel
theorem d0_16 : decode jdk_41_method_11_code 16 = .ok (.iload_n 0, 1) := by decide +kernel
theorem d0_17 : decode jdk_41_method_11_code 17 = .ok (.ireturn, 1) := by decide +kernel
theorem d17_0 : decode jdk_42_method_147_code 0 = .ok (.aload_n 0, 1) := by decide +kernel
theorem d17_1 : decode jdk_42_method_147_code 1 = .ok (.invokevirtual 335, 3) := by decide +kernel
theorem d17_4 : decode jdk_42_method_147_code 4 = .ok (.iload_n 3, 1) := by decide +kernel
theorem d17_5 : decode jdk_42_method_147_code 5 = .ok (.if_icmp .ne 23, 3) := by decide +kernel
theorem d17_8 : decode jdk_42_method_147_code 8 = .ok (.aload_n 0, 1) := by decide +kernel
theorem d17_9 : decode jdk_42_method_147_code 9 = .ok (.getfield 9, 3) := by decide +kernel
theorem d17_12 : decode jdk_42_method_147_code 12 = .ok (.iconst 0, 1) := by decide +kernel
theorem d17_13 : decode jdk_42_method_147_code 13 = .ok (.aload_n 1, 1) := by decide +kernel
theorem d17_14 : decode jdk_42_method_147_code 14 = .ok (.iload_n 2, 1) := by decide +kernel
theorem d17_15 : decode jdk_42_method_147_code 15 = .ok (.iload_n 3, 1) := by decide +kernel
theorem d17_16 : decode jdk_42_method_147_code 16 = .ok (.ishl, 1) := by decide +kernel
theorem d17_17 : decode jdk_42_method_147_code 17 = .ok (.aload_n 0, 1) := by decide +kernel
theorem d17_18 : decode jdk_42_method_147_code 18 = .ok (.getfield 9, 3) := by decide +kernel
theorem d17_21 : decode jdk_42_method_147_code 21 = .ok (.arraylength, 1) := by decide +kernel
theorem d17_22 : decode jdk_42_method_147_code 22 = .ok (.invokestatic 212, 3) := by decide +kernel
theorem d17_25 : decode jdk_42_method_147_code 25 = .ok (.goto 18, 3) := by decide +kernel
theorem d17_43 : decode jdk_42_method_147_code 43 = .ok (.return_, 1) := by decide +kernel
theorem d4_0 : decode jdk_42_method_149_code 0 = .ok (.aload_n 0, 1) := by decide +kernel
theorem d4_1 : decode jdk_42_method_149_code 1 = .ok (.invokespecial 1, 3) := by decide +kernel
theorem d4_4 : decode jdk_42_method_149_code 4 = .ok (.iload_n 3, 1) := by decide +kernel
theorem d4_5 : decode jdk_42_method_149_code 5 = .ok (.ifCond .ne 22, 3) := by decide +kernel
theorem d4_8 : decode jdk_42_method_149_code 8 = .ok (.aload_n 0, 1) := by decide +kernel
theorem d4_9 : decode jdk_42_method_149_code 9 = .ok (.ldc 7, 2) := by decide +kernel
theorem d4_11 : decode jdk_42_method_149_code 11 = .ok (.getfield 9, 3) := by decide +kernel
theorem d4_14 : decode jdk_42_method_149_code 14 = .ok (.putfield 9, 3) := by decide +kernel
theorem d4_17 : decode jdk_42_method_149_code 17 = .ok (.aload_n 0, 1) := by decide +kernel
theorem d4_18 : decode jdk_42_method_149_code 18 = .ok (.ldc 7, 2) := by decide +kernel
theorem d4_20 : decode jdk_42_method_149_code 20 = .ok (.getfield 15, 3) := by decide +kernel
theorem d4_23 : decode jdk_42_method_149_code 23 = .ok (.putfield 15, 3) := by decide +kernel
theorem d4_26 : decode jdk_42_method_149_code 26 = .ok (.return_, 1) := by decide +kernel
theorem d4_27 : decode jdk_42_method_149_code 27 = .ok (.getstatic 38, 3) := by decide +kernel
theorem d4_30 : decode jdk_42_method_149_code 30 = .ok (.ifCond .eq 28, 3) := by decide +kernel
theorem d4_33 : decode jdk_42_method_149_code 33 = .ok (.aload_n 1, 1) := by decide +kernel
theorem d4_34 : decode jdk_42_method_149_code 34 = .ok (.iload_n 2, 1) := by decide +kernel
theorem d4_35 : decode jdk_42_method_149_code 35 = .ok (.iload_n 3, 1) := by decide +kernel
theorem d4_36 : decode jdk_42_method_149_code 36 = .ok (.invokestatic 177, 3) := by decide +kernel
theorem d4_39 : decode jdk_42_method_149_code 39 = .ok (.astore 5, 2) := by decide +kernel
theorem d4_41 : decode jdk_42_method_149_code 41 = .ok (.aload_n 0, 1) := by decide +kernel
theorem d4_42 : decode jdk_42_method_149_code 42 = .ok (.aload 5, 2) := by decide +kernel
theorem d4_44 : decode jdk_42_method_149_code 44 = .ok (.iload_n 3, 1) := by decide +kernel
theorem d4_45 : decode jdk_42_method_149_code 45 = .ok (.invokestatic 47, 3) := by decide +kernel
theorem d4_48 : decode jdk_42_method_149_code 48 = .ok (.putfield 15, 3) := by decide +kernel
theorem d4_51 : decode jdk_42_method_149_code 51 = .ok (.aload_n 0, 1) := by decide +kernel
theorem d4_52 : decode jdk_42_method_149_code 52 = .ok (.aload 5, 2) := by decide +kernel
theorem d4_54 : decode jdk_42_method_149_code 54 = .ok (.putfield 9, 3) := by decide +kernel
theorem d4_57 : decode jdk_42_method_149_code 57 = .ok (.return_, 1) := by decide +kernel
theorem d20_0 : decode jdk_42_method_150_code 0 = .ok (.aload_n 0, 1) := by decide +kernel
theorem d20_1 : decode jdk_42_method_150_code 1 = .ok (.invokespecial 1, 3) := by decide +kernel
theorem d20_4 : decode jdk_42_method_150_code 4 = .ok (.aload_n 1, 1) := by decide +kernel
theorem d20_5 : decode jdk_42_method_150_code 5 = .ok (.invokevirtual 552, 3) := by decide +kernel
theorem d20_8 : decode jdk_42_method_150_code 8 = .ok (.astore_n 3, 1) := by decide +kernel
theorem d20_9 : decode jdk_42_method_150_code 9 = .ok (.aload_n 1, 1) := by decide +kernel
theorem d20_10 : decode jdk_42_method_150_code 10 = .ok (.invokevirtual 549, 3) := by decide +kernel
theorem d20_13 : decode jdk_42_method_150_code 13 = .ok (.istore 4, 2) := by decide +kernel
theorem d20_15 : decode jdk_42_method_150_code 15 = .ok (.aload_n 1, 1) := by decide +kernel
theorem d20_16 : decode jdk_42_method_150_code 16 = .ok (.invokevirtual 1047, 3) := by decide +kernel
theorem d20_19 : decode jdk_42_method_150_code 19 = .ok (.ifCond .eq 22, 3) := by decide +kernel
theorem d20_22 : decode jdk_42_method_150_code 22 = .ok (.aload_n 0, 1) := by decide +kernel
theorem d20_23 : decode jdk_42_method_150_code 23 = .ok (.iconst 0, 1) := by decide +kernel
theorem d20_24 : decode jdk_42_method_150_code 24 = .ok (.putfield 15, 3) := by decide +kernel
theorem d20_27 : decode jdk_42_method_150_code 27 = .ok (.aload_n 0, 1) := by decide +kernel
theorem d20_28 : decode jdk_42_method_150_code 28 = .ok (.aload_n 3, 1) := by decide +kernel
theorem d20_29 : decode jdk_42_method_150_code 29 = .ok (.iconst 0, 1) := by decide +kernel
theorem d20_30 : decode jdk_42_method_150_code 30 = .ok (.iload 4, 2) := by decide +kernel
theorem d20_32 : decode jdk_42_method_150_code 32 = .ok (.invokestatic 54, 3) := by decide +kernel
theorem d20_35 : decode jdk_42_method_150_code 35 = .ok (.putfield 9, 3) := by decide +kernel
theorem d20_38 : decode jdk_42_method_150_code 38 = .ok (.goto 59, 3) := by decide +kernel
theorem d20_97 : decode jdk_42_method_150_code 97 = .ok (.return_, 1) := by decide +kernel
theorem d13_0 : decode jdk_42_method_152_code 0 = .ok (.getstatic 38, 3) := by decide +kernel
theorem d13_3 : decode jdk_42_method_152_code 3 = .ok (.ifCond .eq 10, 3) := by decide +kernel
theorem d13_6 : decode jdk_42_method_152_code 6 = .ok (.aload_n 0, 1) := by decide +kernel
theorem d13_7 : decode jdk_42_method_152_code 7 = .ok (.getfield 15, 3) := by decide +kernel
theorem d13_10 : decode jdk_42_method_152_code 10 = .ok (.goto 4, 3) := by decide +kernel
theorem d13_14 : decode jdk_42_method_152_code 14 = .ok (.ireturn, 1) := by decide +kernel
theorem d31_0 : decode jdk_42_method_154_code 0 = .ok (.getstatic 38, 3) := by decide +kernel
theorem d31_3 : decode jdk_42_method_154_code 3 = .ok (.ifCond .eq 14, 3) := by decide +kernel
theorem d31_6 : decode jdk_42_method_154_code 6 = .ok (.aload_n 0, 1) := by decide +kernel
theorem d31_7 : decode jdk_42_method_154_code 7 = .ok (.getfield 15, 3) := by decide +kernel
theorem d31_10 : decode jdk_42_method_154_code 10 = .ok (.ifCond .ne 7, 3) := by decide +kernel
theorem d31_13 : decode jdk_42_method_154_code 13 = .ok (.iconst 1, 1) := by decide +kernel
theorem d31_14 : decode jdk_42_method_154_code 14 = .ok (.goto 4, 3) := by decide +kernel
theorem d31_18 : decode jdk_42_method_154_code 18 = .ok (.ireturn, 1) := by decide +kernel
theorem d1_0 : decode jdk_42_method_155_code 0 = .ok (.iload_n 0, 1) := by decide +kernel
theorem d1_1 : decode jdk_42_method_155_code 1 = .ok (.iload_n 1, 1) := by decide +kernel
theorem d1_2 : decode jdk_42_method_155_code 2 = .ok (.getstatic 1053, 3) := by decide +kernel
theorem d1_5 : decode jdk_42_method_155_code 5 = .ok (.invokestatic 1059, 3) := by decide +kernel
theorem d1_8 : decode jdk_42_method_155_code 8 = .ok (.pop, 1) := by decide +kernel
theorem d1_9 : decode jdk_42_method_155_code 9 = .ok (.return_, 1) := by decide +kernel
theorem d3_0 : decode jdk_42_method_3_code 0 = .ok (.aload_n 0, 1) := by decide +kernel
theorem d3_1 : decode jdk_42_method_3_code 1 = .ok (.aload_n 1, 1) := by decide +kernel
theorem d3_2 : decode jdk_42_method_3_code 2 = .ok (.iconst 0, 1) := by decide +kernel
theorem d3_3 : decode jdk_42_method_3_code 3 = .ok (.aload_n 1, 1) := by decide +kernel
theorem d3_4 : decode jdk_42_method_3_code 4 = .ok (.arraylength, 1) := by decide +kernel
theorem d3_5 : decode jdk_42_method_3_code 5 = .ok (.aconst_null, 1) := by decide +kernel
theorem d3_6 : decode jdk_42_method_3_code 6 = .ok (.invokespecial 27, 3) := by decide +kernel
theorem d3_9 : decode jdk_42_method_3_code 9 = .ok (.return_, 1) := by decide +kernel
theorem d19_0 : decode jdk_42_method_53_code 0 = .ok (.aload_n 0, 1) := by decide +kernel
theorem d19_1 : decode jdk_42_method_53_code 1 = .ok (.aload_n 1, 1) := by decide +kernel
theorem d19_2 : decode jdk_42_method_53_code 2 = .ok (.aconst_null, 1) := by decide +kernel
theorem d19_3 : decode jdk_42_method_53_code 3 = .ok (.invokespecial 489, 3) := by decide +kernel
theorem d19_6 : decode jdk_42_method_53_code 6 = .ok (.return_, 1) := by decide +kernel
theorem d12_0 : decode jdk_42_method_54_code 0 = .ok (.aload_n 0, 1) := by decide +kernel
theorem d12_1 : decode jdk_42_method_54_code 1 = .ok (.getfield 9, 3) := by decide +kernel
theorem d12_4 : decode jdk_42_method_54_code 4 = .ok (.arraylength, 1) := by decide +kernel
theorem d12_5 : decode jdk_42_method_54_code 5 = .ok (.aload_n 0, 1) := by decide +kernel
theorem d12_6 : decode jdk_42_method_54_code 6 = .ok (.invokevirtual 335, 3) := by decide +kernel
theorem d12_9 : decode jdk_42_method_54_code 9 = .ok (.ishr, 1) := by decide +kernel
theorem d12_10 : decode jdk_42_method_54_code 10 = .ok (.ireturn, 1) := by decide +kernel
theorem d30_0 : decode jdk_42_method_56_code 0 = .ok (.aload_n 0, 1) := by decide +kernel
theorem d30_1 : decode jdk_42_method_56_code 1 = .ok (.invokevirtual 492, 3) := by decide +kernel
theorem d30_4 : decode jdk_42_method_56_code 4 = .ok (.ifCond .eq 12, 3) := by decide +kernel
theorem d30_7 : decode jdk_42_method_56_code 7 = .ok (.aload_n 0, 1) := by decide +kernel
theorem d30_8 : decode jdk_42_method_56_code 8 = .ok (.getfield 9, 3) := by decide +kernel
theorem d30_11 : decode jdk_42_method_56_code 11 = .ok (.iload_n 1, 1) := by decide +kernel
theorem d30_12 : decode jdk_42_method_56_code 12 = .ok (.invokestatic 495, 3) := by decide +kernel
theorem d30_15 : decode jdk_42_method_56_code 15 = .ok (.ireturn, 1) := by decide +kernel
theorem d32_0 : decode jdk_43_method_2_code 0 = .ok (.iload_n 1, 1) := by decide +kernel
theorem d32_1 : decode jdk_43_method_2_code 1 = .ok (.aload_n 0, 1) := by decide +kernel
theorem d32_2 : decode jdk_43_method_2_code 2 = .ok (.arraylength, 1) := by decide +kernel
theorem d32_3 : decode jdk_43_method_2_code 3 = .ok (.invokestatic 9, 3) := by decide +kernel
theorem d32_6 : decode jdk_43_method_2_code 6 = .ok (.aload_n 0, 1) := by decide +kernel
theorem d32_7 : decode jdk_43_method_2_code 7 = .ok (.iload_n 1, 1) := by decide +kernel
theorem d32_8 : decode jdk_43_method_2_code 8 = .ok (.baload, 1) := by decide +kernel
theorem d32_9 : decode jdk_43_method_2_code 9 = .ok (.sipush 255, 3) := by decide +kernel
theorem d32_12 : decode jdk_43_method_2_code 12 = .ok (.iand, 1) := by decide +kernel
theorem d32_13 : decode jdk_43_method_2_code 13 = .ok (.i2c, 1) := by decide +kernel
theorem d32_14 : decode jdk_43_method_2_code 14 = .ok (.ireturn, 1) := by decide +kernel
theorem d35_0 : decode jdk_52_method_15_code 0 = .ok (.iload_n 1, 1) := by decide +kernel
theorem d35_1 : decode jdk_52_method_15_code 1 = .ok (.aload_n 0, 1) := by decide +kernel
theorem d35_2 : decode jdk_52_method_15_code 2 = .ok (.arraylength, 1) := by decide +kernel
theorem d35_3 : decode jdk_52_method_15_code 3 = .ok (.isub, 1) := by decide +kernel
theorem d35_4 : decode jdk_52_method_15_code 4 = .ok (.bipush 31, 2) := by decide +kernel
theorem d35_6 : decode jdk_52_method_15_code 6 = .ok (.iushr, 1) := by decide +kernel
theorem d35_7 : decode jdk_52_method_15_code 7 = .ok (.i2b, 1) := by decide +kernel
theorem d35_8 : decode jdk_52_method_15_code 8 = .ok (.ireturn, 1) := by decide +kernel
theorem d33_0 : decode jdk_52_method_16_code 0 = .ok (.iload_n 2, 1) := by decide +kernel
theorem d33_1 : decode jdk_52_method_16_code 1 = .ok (.newarray .byte, 2) := by decide +kernel
theorem d33_3 : decode jdk_52_method_16_code 3 = .ok (.astore_n 3, 1) := by decide +kernel
theorem d33_4 : decode jdk_52_method_16_code 4 = .ok (.aload_n 0, 1) := by decide +kernel
theorem d33_5 : decode jdk_52_method_16_code 5 = .ok (.iload_n 1, 1) := by decide +kernel
theorem d33_6 : decode jdk_52_method_16_code 6 = .ok (.aload_n 3, 1) := by decide +kernel
theorem d33_7 : decode jdk_52_method_16_code 7 = .ok (.iconst 0, 1) := by decide +kernel
theorem d33_8 : decode jdk_52_method_16_code 8 = .ok (.iload_n 2, 1) := by decide +kernel
theorem d33_9 : decode jdk_52_method_16_code 9 = .ok (.invokestatic 115, 3) := by decide +kernel
theorem d33_12 : decode jdk_52_method_16_code 12 = .ok (.istore 4, 2) := by decide +kernel
theorem d33_14 : decode jdk_52_method_16_code 14 = .ok (.iload 4, 2) := by decide +kernel
theorem d33_16 : decode jdk_52_method_16_code 16 = .ok (.iload_n 2, 1) := by decide +kernel
theorem d33_17 : decode jdk_52_method_16_code 17 = .ok (.if_icmp .eq 40, 3) := by decide +kernel
theorem d33_57 : decode jdk_52_method_16_code 57 = .ok (.aload_n 3, 1) := by decide +kernel
theorem d33_58 : decode jdk_52_method_16_code 58 = .ok (.areturn, 1) := by decide +kernel
theorem d34_0 : decode jdk_52_method_21_code 0 = .ok (.iconst 0, 1) := by decide +kernel
theorem d34_1 : decode jdk_52_method_21_code 1 = .ok (.istore 5, 2) := by decide +kernel
theorem d34_3 : decode jdk_52_method_21_code 3 = .ok (.iload 5, 2) := by decide +kernel
theorem d34_5 : decode jdk_52_method_21_code 5 = .ok (.iload 4, 2) := by decide +kernel
theorem d34_7 : decode jdk_52_method_21_code 7 = .ok (.if_icmp .ge 37, 3) := by decide +kernel
theorem d34_10 : decode jdk_52_method_21_code 10 = .ok (.aload_n 0, 1) := by decide +kernel
theorem d34_11 : decode jdk_52_method_21_code 11 = .ok (.iload_n 1, 1) := by decide +kernel
theorem d34_12 : decode jdk_52_method_21_code 12 = .ok (.caload, 1) := by decide +kernel
theorem d34_13 : decode jdk_52_method_21_code 13 = .ok (.istore 6, 2) := by decide +kernel
theorem d34_15 : decode jdk_52_method_21_code 15 = .ok (.iload 6, 2) := by decide +kernel
theorem d34_17 : decode jdk_52_method_21_code 17 = .ok (.sipush 255, 3) := by decide +kernel
theorem d34_20 : decode jdk_52_method_21_code 20 = .ok (.if_icmp .le 6, 3) := by decide +kernel
theorem d34_26 : decode jdk_52_method_21_code 26 = .ok (.aload_n 2, 1) := by decide +kernel
theorem d34_27 : decode jdk_52_method_21_code 27 = .ok (.iload_n 3, 1) := by decide +kernel
theorem d34_28 : decode jdk_52_method_21_code 28 = .ok (.iload 6, 2) := by decide +kernel
theorem d34_30 : decode jdk_52_method_21_code 30 = .ok (.i2b, 1) := by decide +kernel
theorem d34_31 : decode jdk_52_method_21_code 31 = .ok (.bastore, 1) := by decide +kernel
theorem d34_32 : decode jdk_52_method_21_code 32 = .ok (.iinc 1 1, 3) := by decide +kernel
theorem d34_35 : decode jdk_52_method_21_code 35 = .ok (.iinc 3 1, 3) := by decide +kernel
theorem d34_38 : decode jdk_52_method_21_code 38 = .ok (.iinc 5 1, 3) := by decide +kernel
theorem d34_41 : decode jdk_52_method_21_code 41 = .ok (.goto (-38), 3) := by decide +kernel
theorem d34_44 : decode jdk_52_method_21_code 44 = .ok (.iload 4, 2) := by decide +kernel
theorem d34_46 : decode jdk_52_method_21_code 46 = .ok (.ireturn, 1) := by decide +kernel
theorem d27_0 : decode jdk_65_method_131_code 0 = .ok (.iload_n 1, 1) := by decide +kernel
theorem d27_1 : decode jdk_65_method_131_code 1 = .ok (.iload_n 0, 1) := by decide +kernel
theorem d27_2 : decode jdk_65_method_131_code 2 = .ok (.if_icmp .ge 35, 3) := by decide +kernel
theorem d27_37 : decode jdk_65_method_131_code 37 = .ok (.return_, 1) := by decide +kernel
theorem d25_0 : decode jdk_65_method_132_code 0 = .ok (.iload_n 1, 1) := by decide +kernel
theorem d25_1 : decode jdk_65_method_132_code 1 = .ok (.ifCond .ne 9, 3) := by decide +kernel
theorem d25_4 : decode jdk_65_method_132_code 4 = .ok (.iload_n 2, 1) := by decide +kernel
theorem d25_5 : decode jdk_65_method_132_code 5 = .ok (.aload_n 0, 1) := by decide +kernel
theorem d25_6 : decode jdk_65_method_132_code 6 = .ok (.arraylength, 1) := by decide +kernel
theorem d25_7 : decode jdk_65_method_132_code 7 = .ok (.if_icmp .eq 10, 3) := by decide +kernel
theorem d25_10 : decode jdk_65_method_132_code 10 = .ok (.aload_n 0, 1) := by decide +kernel
theorem d25_11 : decode jdk_65_method_132_code 11 = .ok (.iload_n 1, 1) := by decide +kernel
theorem d25_12 : decode jdk_65_method_132_code 12 = .ok (.iload_n 2, 1) := by decide +kernel
theorem d25_13 : decode jdk_65_method_132_code 13 = .ok (.invokestatic 339, 3) := by decide +kernel
theorem d25_16 : decode jdk_65_method_132_code 16 = .ok (.areturn, 1) := by decide +kernel
theorem d26_0 : decode jdk_65_method_133_code 0 = .ok (.iload_n 1, 1) := by decide +kernel
theorem d26_1 : decode jdk_65_method_133_code 1 = .ok (.iload_n 2, 1) := by decide +kernel
theorem d26_2 : decode jdk_65_method_133_code 2 = .ok (.invokestatic 343, 3) := by decide +kernel
theorem d26_5 : decode jdk_65_method_133_code 5 = .ok (.iload_n 2, 1) := by decide +kernel
theorem d26_6 : decode jdk_65_method_133_code 6 = .ok (.iload_n 1, 1) := by decide +kernel
theorem d26_7 : decode jdk_65_method_133_code 7 = .ok (.isub, 1) := by decide +kernel
theorem d26_8 : decode jdk_65_method_133_code 8 = .ok (.istore_n 3, 1) := by decide +kernel
theorem d26_9 : decode jdk_65_method_133_code 9 = .ok (.iload_n 3, 1) := by decide +kernel
theorem d26_10 : decode jdk_65_method_133_code 10 = .ok (.newarray .byte, 2) := by decide +kernel
theorem d26_12 : decode jdk_65_method_133_code 12 = .ok (.astore 4, 2) := by decide +kernel
theorem d26_14 : decode jdk_65_method_133_code 14 = .ok (.aload_n 0, 1) := by decide +kernel
theorem d26_15 : decode jdk_65_method_133_code 15 = .ok (.iload_n 1, 1) := by decide +kernel
theorem d26_16 : decode jdk_65_method_133_code 16 = .ok (.aload 4, 2) := by decide +kernel
theorem d26_18 : decode jdk_65_method_133_code 18 = .ok (.iconst 0, 1) := by decide +kernel
theorem d26_19 : decode jdk_65_method_133_code 19 = .ok (.aload_n 0, 1) := by decide +kernel
theorem d26_20 : decode jdk_65_method_133_code 20 = .ok (.arraylength, 1) := by decide +kernel
theorem d26_21 : decode jdk_65_method_133_code 21 = .ok (.iload_n 1, 1) := by decide +kernel
theorem d26_22 : decode jdk_65_method_133_code 22 = .ok (.isub, 1) := by decide +kernel
theorem d26_23 : decode jdk_65_method_133_code 23 = .ok (.iload_n 3, 1) := by decide +kernel
theorem d26_24 : decode jdk_65_method_133_code 24 = .ok (.invokestatic 304, 3) := by decide +kernel
theorem d26_27 : decode jdk_65_method_133_code 27 = .ok (.invokestatic 150, 3) := by decide +kernel
theorem d26_30 : decode jdk_65_method_133_code 30 = .ok (.aload 4, 2) := by decide +kernel
theorem d26_32 : decode jdk_65_method_133_code 32 = .ok (.areturn, 1) := by decide +kernel
theorem d8_0 : decode jdk_67_method_1_code 0 = .ok (.aload_n 0, 1) := by decide +kernel
theorem d8_1 : decode jdk_67_method_1_code 1 = .ok (.bipush 16, 2) := by decide +kernel
theorem d8_3 : decode jdk_67_method_1_code 3 = .ok (.invokespecial 1, 3) := by decide +kernel
theorem d8_6 : decode jdk_67_method_1_code 6 = .ok (.return_, 1) := by decide +kernel
theorem d18_0 : decode jdk_67_method_42_code 0 = .ok (.new 18, 3) := by decide +kernel
theorem d18_3 : decode jdk_67_method_42_code 3 = .ok (.dup, 1) := by decide +kernel
theorem d18_4 : decode jdk_67_method_42_code 4 = .ok (.aload_n 0, 1) := by decide +kernel
theorem d18_5 : decode jdk_67_method_42_code 5 = .ok (.invokespecial 137, 3) := by decide +kernel
theorem d18_8 : decode jdk_67_method_42_code 8 = .ok (.areturn, 1) := by decide +kernel
theorem d10_0 : decode jdk_67_method_7_code 0 = .ok (.aload_n 0, 1) := by decide +kernel
theorem d10_1 : decode jdk_67_method_7_code 1 = .ok (.aload_n 1, 1) := by decide +kernel
theorem d10_2 : decode jdk_67_method_7_code 2 = .ok (.invokespecial 29, 3) := by decide +kernel
theorem d10_5 : decode jdk_67_method_7_code 5 = .ok (.pop, 1) := by decide +kernel
theorem d10_6 : decode jdk_67_method_7_code 6 = .ok (.aload_n 0, 1) := by decide +kernel
theorem d10_7 : decode jdk_67_method_7_code 7 = .ok (.areturn, 1) := by decide +kernel
theorem d22_0 : decode jdk_67_method_93_code 0 = .ok (.aload_n 0, 1) := by decide +kernel
theorem d22_1 : decode jdk_67_method_93_code 1 = .ok (.invokespecial 343, 3) := by decide +kernel
theorem d22_4 : decode jdk_67_method_93_code 4 = .ok (.ireturn, 1) := by decide +kernel
theorem d11_0 : decode jdk_68_method_22_code 0 = .ok (.aload_n 1, 1) := by decide +kernel
theorem d11_1 : decode jdk_68_method_22_code 1 = .ok (.ifnonnull 8, 3) := by decide +kernel
theorem d11_9 : decode jdk_68_method_22_code 9 = .ok (.aload_n 1, 1) := by decide +kernel
theorem d11_10 : decode jdk_68_method_22_code 10 = .ok (.invokevirtual 32, 3) := by decide +kernel
theorem d11_13 : decode jdk_68_method_22_code 13 = .ok (.istore_n 2, 1) := by decide +kernel
theorem d11_14 : decode jdk_68_method_22_code 14 = .ok (.aload_n 0, 1) := by decide +kernel
theorem d11_15 : decode jdk_68_method_22_code 15 = .ok (.aload_n 0, 1) := by decide +kernel
theorem d11_16 : decode jdk_68_method_22_code 16 = .ok (.getfield 79, 3) := by decide +kernel
theorem d11_19 : decode jdk_68_method_22_code 19 = .ok (.iload_n 2, 1) := by decide +kernel
theorem d11_20 : decode jdk_68_method_22_code 20 = .ok (.iadd, 1) := by decide +kernel
theorem d11_21 : decode jdk_68_method_22_code 21 = .ok (.invokevirtual 100, 3) := by decide +kernel
theorem d11_24 : decode jdk_68_method_22_code 24 = .ok (.aload_n 0, 1) := by decide +kernel
theorem d11_25 : decode jdk_68_method_22_code 25 = .ok (.aload_n 0, 1) := by decide +kernel
theorem d11_26 : decode jdk_68_method_22_code 26 = .ok (.getfield 79, 3) := by decide +kernel
theorem d11_29 : decode jdk_68_method_22_code 29 = .ok (.aload_n 1, 1) := by decide +kernel
theorem d11_30 : decode jdk_68_method_22_code 30 = .ok (.invokevirtual 208, 3) := by decide +kernel
theorem d11_33 : decode jdk_68_method_22_code 33 = .ok (.aload_n 0, 1) := by decide +kernel
theorem d11_34 : decode jdk_68_method_22_code 34 = .ok (.dup, 1) := by decide +kernel
theorem d11_35 : decode jdk_68_method_22_code 35 = .ok (.getfield 79, 3) := by decide +kernel
theorem d11_38 : decode jdk_68_method_22_code 38 = .ok (.iload_n 2, 1) := by decide +kernel
theorem d11_39 : decode jdk_68_method_22_code 39 = .ok (.iadd, 1) := by decide +kernel
theorem d11_40 : decode jdk_68_method_22_code 40 = .ok (.putfield 79, 3) := by decide +kernel
theorem d11_43 : decode jdk_68_method_22_code 43 = .ok (.aload_n 0, 1) := by decide +kernel
theorem d11_44 : decode jdk_68_method_22_code 44 = .ok (.areturn, 1) := by decide +kernel
theorem d9_0 : decode jdk_68_method_2_code 0 = .ok (.aload_n 0, 1) := by decide +kernel
theorem d9_1 : decode jdk_68_method_2_code 1 = .ok (.invokespecial 3, 3) := by decide +kernel
theorem d9_4 : decode jdk_68_method_2_code 4 = .ok (.getstatic 18, 3) := by decide +kernel
theorem d9_7 : decode jdk_68_method_2_code 7 = .ok (.ifCond .eq 18, 3) := by decide +kernel
theorem d9_10 : decode jdk_68_method_2_code 10 = .ok (.aload_n 0, 1) := by decide +kernel
theorem d9_11 : decode jdk_68_method_2_code 11 = .ok (.iload_n 1, 1) := by decide +kernel
theorem d9_12 : decode jdk_68_method_2_code 12 = .ok (.newarray .byte, 2) := by decide +kernel
theorem d9_14 : decode jdk_68_method_2_code 14 = .ok (.putfield 15, 3) := by decide +kernel
theorem d9_17 : decode jdk_68_method_2_code 17 = .ok (.aload_n 0, 1) := by decide +kernel
theorem d9_18 : decode jdk_68_method_2_code 18 = .ok (.iconst 0, 1) := by decide +kernel
theorem d9_19 : decode jdk_68_method_2_code 19 = .ok (.putfield 22, 3) := by decide +kernel
theorem d9_22 : decode jdk_68_method_2_code 22 = .ok (.goto 16, 3) := by decide +kernel
theorem d9_38 : decode jdk_68_method_2_code 38 = .ok (.return_, 1) := by decide +kernel
theorem d21_0 : decode jdk_68_method_64_code 0 = .ok (.aload_n 0, 1) := by decide +kernel
theorem d21_1 : decode jdk_68_method_64_code 1 = .ok (.getfield 15, 3) := by decide +kernel
theorem d21_4 : decode jdk_68_method_64_code 4 = .ok (.areturn, 1) := by decide +kernel
theorem d24_0 : decode jdk_68_method_68_code 0 = .ok (.getstatic 18, 3) := by decide +kernel
theorem d24_3 : decode jdk_68_method_68_code 3 = .ok (.ifCond .eq 14, 3) := by decide +kernel
theorem d24_6 : decode jdk_68_method_68_code 6 = .ok (.aload_n 0, 1) := by decide +kernel
theorem d24_7 : decode jdk_68_method_68_code 7 = .ok (.getfield 22, 3) := by decide +kernel
theorem d24_10 : decode jdk_68_method_68_code 10 = .ok (.ifCond .ne 7, 3) := by decide +kernel
theorem d24_13 : decode jdk_68_method_68_code 13 = .ok (.iconst 1, 1) := by decide +kernel
theorem d24_14 : decode jdk_68_method_68_code 14 = .ok (.goto 4, 3) := by decide +kernel
theorem d24_18 : decode jdk_68_method_68_code 18 = .ok (.ireturn, 1) := by decide +kernel
theorem d23_0 : decode jdk_68_method_6_code 0 = .ok (.aload_n 0, 1) := by decide +kernel
theorem d23_1 : decode jdk_68_method_6_code 1 = .ok (.getfield 79, 3) := by decide +kernel
theorem d23_4 : decode jdk_68_method_6_code 4 = .ok (.ireturn, 1) := by decide +kernel
theorem d16_0 : decode jdk_68_method_71_code 0 = .ok (.getstatic 18, 3) := by decide +kernel
theorem d16_3 : decode jdk_68_method_71_code 3 = .ok (.ifCond .eq 18, 3) := by decide +kernel
theorem d16_6 : decode jdk_68_method_71_code 6 = .ok (.aload_n 0, 1) := by decide +kernel
theorem d16_7 : decode jdk_68_method_71_code 7 = .ok (.getfield 22, 3) := by decide +kernel
theorem d16_10 : decode jdk_68_method_71_code 10 = .ok (.aload_n 1, 1) := by decide +kernel
theorem d16_11 : decode jdk_68_method_71_code 11 = .ok (.invokevirtual 40, 3) := by decide +kernel
theorem d16_14 : decode jdk_68_method_71_code 14 = .ok (.if_icmp .eq 7, 3) := by decide +kernel
theorem d16_21 : decode jdk_68_method_71_code 21 = .ok (.return_, 1) := by decide +kernel
theorem d15_0 : decode jdk_68_method_73_code 0 = .ok (.aload_n 0, 1) := by decide +kernel
theorem d15_1 : decode jdk_68_method_73_code 1 = .ok (.aload_n 2, 1) := by decide +kernel
theorem d15_2 : decode jdk_68_method_73_code 2 = .ok (.invokevirtual 397, 3) := by decide +kernel
theorem d15_5 : decode jdk_68_method_73_code 5 = .ok (.aload_n 2, 1) := by decide +kernel
theorem d15_6 : decode jdk_68_method_73_code 6 = .ok (.aload_n 0, 1) := by decide +kernel
theorem d15_7 : decode jdk_68_method_73_code 7 = .ok (.getfield 15, 3) := by decide +kernel
theorem d15_10 : decode jdk_68_method_73_code 10 = .ok (.iload_n 1, 1) := by decide +kernel
theorem d15_11 : decode jdk_68_method_73_code 11 = .ok (.aload_n 0, 1) := by decide +kernel
theorem d15_12 : decode jdk_68_method_73_code 12 = .ok (.getfield 22, 3) := by decide +kernel
theorem d15_15 : decode jdk_68_method_73_code 15 = .ok (.invokevirtual 399, 3) := by decide +kernel
theorem d15_18 : decode jdk_68_method_73_code 18 = .ok (.return_, 1) := by decide +kernel
theorem d14_0 : decode jdk_68_method_9_code 0 = .ok (.aload_n 0, 1) := by decide +kernel
theorem d14_1 : decode jdk_68_method_9_code 1 = .ok (.getfield 15, 3) := by decide +kernel
theorem d14_4 : decode jdk_68_method_9_code 4 = .ok (.arraylength, 1) := by decide +kernel
theorem d14_5 : decode jdk_68_method_9_code 5 = .ok (.aload_n 0, 1) := by decide +kernel
theorem d14_6 : decode jdk_68_method_9_code 6 = .ok (.getfield 22, 3) := by decide +kernel
theorem d14_9 : decode jdk_68_method_9_code 9 = .ok (.ishr, 1) := by decide +kernel
theorem d14_10 : decode jdk_68_method_9_code 10 = .ok (.istore_n 2, 1) := by decide +kernel
theorem d14_11 : decode jdk_68_method_9_code 11 = .ok (.iload_n 1, 1) := by decide +kernel
theorem d14_12 : decode jdk_68_method_9_code 12 = .ok (.iload_n 2, 1) := by decide +kernel
theorem d14_13 : decode jdk_68_method_9_code 13 = .ok (.isub, 1) := by decide +kernel
theorem d14_14 : decode jdk_68_method_9_code 14 = .ok (.ifCond .le 24, 3) := by decide +kernel
theorem d14_38 : decode jdk_68_method_9_code 38 = .ok (.return_, 1) := by decide +kernel
theorem d2_0 : decode method_3_code 0 = .ok (.iload_n 0, 1) := by decide +kernel
theorem d2_1 : decode method_3_code 1 = .ok (.ifCond .ne 14, 3) := by decide +kernel
theorem d2_4 : decode method_3_code 4 = .ok (.new 23, 3) := by decide +kernel
theorem d2_7 : decode method_3_code 7 = .ok (.dup, 1) := by decide +kernel
theorem d2_8 : decode method_3_code 8 = .ok (.iconst 0, 1) := by decide +kernel
theorem d2_9 : decode method_3_code 9 = .ok (.newarray .char, 2) := by decide +kernel
theorem d2_11 : decode method_3_code 11 = .ok (.invokespecial 32, 3) := by decide +kernel
theorem d2_14 : decode method_3_code 14 = .ok (.areturn, 1) := by decide +kernel
theorem d2_15 : decode method_3_code 15 = .ok (.iload_n 0, 1) := by decide +kernel
theorem d2_16 : decode method_3_code 16 = .ok (.iconst 1, 1) := by decide +kernel
theorem d2_17 : decode method_3_code 17 = .ok (.if_icmp .ne 18, 3) := by decide +kernel
theorem d2_20 : decode method_3_code 20 = .ok (.new 23, 3) := by decide +kernel
theorem d2_23 : decode method_3_code 23 = .ok (.dup, 1) := by decide +kernel
theorem d2_24 : decode method_3_code 24 = .ok (.iconst 1, 1) := by decide +kernel
theorem d2_25 : decode method_3_code 25 = .ok (.newarray .char, 2) := by decide +kernel
theorem d2_27 : decode method_3_code 27 = .ok (.dup, 1) := by decide +kernel
theorem d2_28 : decode method_3_code 28 = .ok (.iconst 0, 1) := by decide +kernel
theorem d2_29 : decode method_3_code 29 = .ok (.iload_n 1, 1) := by decide +kernel
theorem d2_30 : decode method_3_code 30 = .ok (.castore, 1) := by decide +kernel
theorem d2_31 : decode method_3_code 31 = .ok (.invokespecial 32, 3) := by decide +kernel
theorem d2_34 : decode method_3_code 34 = .ok (.areturn, 1) := by decide +kernel
theorem d2_35 : decode method_3_code 35 = .ok (.new 23, 3) := by decide +kernel
theorem d2_38 : decode method_3_code 38 = .ok (.dup, 1) := by decide +kernel
theorem d2_39 : decode method_3_code 39 = .ok (.iconst 2, 1) := by decide +kernel
theorem d2_40 : decode method_3_code 40 = .ok (.newarray .char, 2) := by decide +kernel
theorem d2_42 : decode method_3_code 42 = .ok (.dup, 1) := by decide +kernel
theorem d2_43 : decode method_3_code 43 = .ok (.iconst 0, 1) := by decide +kernel
theorem d2_44 : decode method_3_code 44 = .ok (.iload_n 1, 1) := by decide +kernel
theorem d2_45 : decode method_3_code 45 = .ok (.castore, 1) := by decide +kernel
theorem d2_46 : decode method_3_code 46 = .ok (.dup, 1) := by decide +kernel
theorem d2_47 : decode method_3_code 47 = .ok (.iconst 1, 1) := by decide +kernel
theorem d2_48 : decode method_3_code 48 = .ok (.iload_n 2, 1) := by decide +kernel
theorem d2_49 : decode method_3_code 49 = .ok (.castore, 1) := by decide +kernel
theorem d2_50 : decode method_3_code 50 = .ok (.invokespecial 32, 3) := by decide +kernel
theorem d2_53 : decode method_3_code 53 = .ok (.areturn, 1) := by decide +kernel
theorem d29_0 : decode method_4_code 0 = .ok (.iload_n 3, 1) := by decide +kernel
theorem d29_1 : decode method_4_code 1 = .ok (.aload_n 0, 1) := by decide +kernel
theorem d29_2 : decode method_4_code 2 = .ok (.invokevirtual 22, 3) := by decide +kernel
theorem d29_5 : decode method_4_code 5 = .ok (.if_icmp .lt 5, 3) := by decide +kernel
theorem d29_8 : decode method_4_code 8 = .ok (.iconst 1, 1) := by decide +kernel
theorem d29_9 : decode method_4_code 9 = .ok (.ireturn, 1) := by decide +kernel
theorem d29_10 : decode method_4_code 10 = .ok (.iload_n 3, 1) := by decide +kernel
theorem d29_11 : decode method_4_code 11 = .ok (.aload_n 1, 1) := by decide +kernel
theorem d29_12 : decode method_4_code 12 = .ok (.invokevirtual 22, 3) := by decide +kernel
theorem d29_15 : decode method_4_code 15 = .ok (.if_icmp .ge 13, 3) := by decide +kernel
theorem d29_18 : decode method_4_code 18 = .ok (.aload_n 1, 1) := by decide +kernel
theorem d29_19 : decode method_4_code 19 = .ok (.iload_n 3, 1) := by decide +kernel
theorem d29_20 : decode method_4_code 20 = .ok (.invokevirtual 35, 3) := by decide +kernel
theorem d29_23 : decode method_4_code 23 = .ok (.istore 4, 2) := by decide +kernel
theorem d29_25 : decode method_4_code 25 = .ok (.goto 32, 3) := by decide +kernel
theorem d29_28 : decode method_4_code 28 = .ok (.iload_n 3, 1) := by decide +kernel
theorem d29_29 : decode method_4_code 29 = .ok (.aload_n 1, 1) := by decide +kernel
theorem d29_30 : decode method_4_code 30 = .ok (.invokevirtual 22, 3) := by decide +kernel
theorem d29_33 : decode method_4_code 33 = .ok (.if_icmp .ne 10, 3) := by decide +kernel
theorem d29_36 : decode method_4_code 36 = .ok (.bipush 35, 2) := by decide +kernel
theorem d29_38 : decode method_4_code 38 = .ok (.istore 4, 2) := by decide +kernel
theorem d29_40 : decode method_4_code 40 = .ok (.goto 17, 3) := by decide +kernel
theorem d29_43 : decode method_4_code 43 = .ok (.aload_n 2, 1) := by decide +kernel
theorem d29_44 : decode method_4_code 44 = .ok (.iload_n 3, 1) := by decide +kernel
theorem d29_45 : decode method_4_code 45 = .ok (.aload_n 1, 1) := by decide +kernel
theorem d29_46 : decode method_4_code 46 = .ok (.invokevirtual 22, 3) := by decide +kernel
theorem d29_49 : decode method_4_code 49 = .ok (.isub, 1) := by decide +kernel
theorem d29_50 : decode method_4_code 50 = .ok (.iconst 1, 1) := by decide +kernel
theorem d29_51 : decode method_4_code 51 = .ok (.isub, 1) := by decide +kernel
theorem d29_52 : decode method_4_code 52 = .ok (.invokevirtual 35, 3) := by decide +kernel
theorem d29_55 : decode method_4_code 55 = .ok (.istore 4, 2) := by decide +kernel
theorem d29_57 : decode method_4_code 57 = .ok (.aload_n 0, 1) := by decide +kernel
theorem d29_58 : decode method_4_code 58 = .ok (.iload_n 3, 1) := by decide +kernel
theorem d29_59 : decode method_4_code 59 = .ok (.invokevirtual 35, 3) := by decide +kernel
theorem d29_62 : decode method_4_code 62 = .ok (.iload 4, 2) := by decide +kernel
theorem d29_64 : decode method_4_code 64 = .ok (.if_icmp .ne 7, 3) := by decide +kernel
theorem d29_67 : decode method_4_code 67 = .ok (.iconst 1, 1) := by decide +kernel
theorem d29_68 : decode method_4_code 68 = .ok (.goto 4, 3) := by decide +kernel
theorem d29_72 : decode method_4_code 72 = .ok (.ireturn, 1) := by decide +kernel
theorem d5_0 : decode prog_31_method_1_code 0 = .ok (.aload_n 0, 1) := by decide +kernel
theorem d5_1 : decode prog_31_method_1_code 1 = .ok (.invokespecial 1, 3) := by decide +kernel
theorem d5_4 : decode prog_31_method_1_code 4 = .ok (.aload_n 0, 1) := by decide +kernel
theorem d5_5 : decode prog_31_method_1_code 5 = .ok (.aload_n 1, 1) := by decide +kernel
theorem d5_6 : decode prog_31_method_1_code 6 = .ok (.putfield 7, 3) := by decide +kernel
theorem d5_9 : decode prog_31_method_1_code 9 = .ok (.aload_n 0, 1) := by decide +kernel
theorem d5_10 : decode prog_31_method_1_code 10 = .ok (.aload_n 2, 1) := by decide +kernel
theorem d5_11 : decode prog_31_method_1_code 11 = .ok (.putfield 13, 3) := by decide +kernel
theorem d5_14 : decode prog_31_method_1_code 14 = .ok (.return_, 1) := by decide +kernel
theorem d7_0 : decode prog_31_method_2_code 0 = .ok (.new 16, 3) := by decide +kernel
theorem d7_3 : decode prog_31_method_2_code 3 = .ok (.dup, 1) := by decide +kernel
theorem d7_4 : decode prog_31_method_2_code 4 = .ok (.invokespecial 18, 3) := by decide +kernel
theorem d7_7 : decode prog_31_method_2_code 7 = .ok (.aload_n 0, 1) := by decide +kernel
theorem d7_8 : decode prog_31_method_2_code 8 = .ok (.getfield 7, 3) := by decide +kernel
theorem d7_11 : decode prog_31_method_2_code 11 = .ok (.invokevirtual 19, 3) := by decide +kernel
theorem d7_14 : decode prog_31_method_2_code 14 = .ok (.ldc 23, 2) := by decide +kernel
theorem d7_16 : decode prog_31_method_2_code 16 = .ok (.invokevirtual 19, 3) := by decide +kernel
theorem d7_19 : decode prog_31_method_2_code 19 = .ok (.aload_n 0, 1) := by decide +kernel
theorem d7_20 : decode prog_31_method_2_code 20 = .ok (.getfield 13, 3) := by decide +kernel
theorem d7_23 : decode prog_31_method_2_code 23 = .ok (.invokevirtual 19, 3) := by decide +kernel
theorem d7_26 : decode prog_31_method_2_code 26 = .ok (.invokevirtual 25, 3) := by decide +kernel
theorem d7_29 : decode prog_31_method_2_code 29 = .ok (.areturn, 1) := by decide +kernel
theorem tw0 {Z : State} {a0 : Array Value} (hw : ∀ d ∈ tables_1, d.before a0 Z = true) : (Jvm.Cond.methodLink "com/example/grantgraph/grantgraph/model/SubjectSetTypeToStringPinLaw" (7 : Nat) ({ cls := "com/example/grantgraph/grantgraph/model/SubjectSetTypeToStringPinLaw", name := "mk", desc := "(ICC)Ljava/lang/String;" } : Jvm.MethodName)).before a0 Z = true := hw _ (List.mem_of_getElem? (i := 0) rfl)
theorem tw1 {Z : State} {a0 : Array Value} (hw : ∀ d ∈ tables_1, d.before a0 Z = true) : (Jvm.Cond.static ({ cls := "com/example/grantgraph/grantgraph/model/SubjectSetTypeToStringPinLaw", name := "mk", desc := "(ICC)Ljava/lang/String;" } : Jvm.MethodName)).before a0 Z = true := hw _ (List.mem_of_getElem? (i := 1) rfl)
theorem tw2 {Z : State} {a0 : Array Value} (hw : ∀ d ∈ tables_1, d.before a0 Z = true) : (Jvm.Cond.initialized "com/example/grantgraph/grantgraph/model/SubjectSetTypeToStringPinLaw").before a0 Z = true := hw _ (List.mem_of_getElem? (i := 2) rfl)
theorem tw3 {Z : State} {a0 : Array Value} (hw : ∀ d ∈ tables_1, d.before a0 Z = true) : (Jvm.Cond.code ({ cls := "com/example/grantgraph/grantgraph/model/SubjectSetTypeToStringPinLaw", name := "mk", desc := "(ICC)Ljava/lang/String;" } : Jvm.MethodName) method_3_code (3 : Nat) (Option.some (Jvm.ClassFile.FieldType.object "java/lang/String"))).before a0 Z = true := hw _ (List.mem_of_getElem? (i := 3) rfl)
theorem tw4 {Z : State} {a0 : Array Value} (hw : ∀ d ∈ tables_1, d.before a0 Z = true) : (Jvm.Cond.classLink "com/example/grantgraph/grantgraph/model/SubjectSetTypeToStringPinLaw" (23 : Nat) "java/lang/String").before a0 Z = true := hw _ (List.mem_of_getElem? (i := 4) rfl)
theorem tw5 {Z : State} {a0 : Array Value} (hw : ∀ d ∈ tables_1, d.before a0 Z = true) : (Jvm.Cond.instantiable "java/lang/String" (4 : Nat)).before a0 Z = true := hw _ (List.mem_of_getElem? (i := 5) rfl)
theorem tw6 {Z : State} {a0 : Array Value} (hw : ∀ d ∈ tables_1, d.before a0 Z = true) : (Jvm.Cond.initialized "java/lang/String").before a0 Z = true := hw _ (List.mem_of_getElem? (i := 6) rfl)
theorem tw7 {Z : State} {a0 : Array Value} (hw : ∀ d ∈ tables_1, d.before a0 Z = true) : (Jvm.Cond.arrayClass Jvm.ClassFile.FieldType.char).before a0 Z = true := hw _ (List.mem_of_getElem? (i := 7) rfl)
theorem tw8 {Z : State} {a0 : Array Value} (hw : ∀ d ∈ tables_1, d.before a0 Z = true) : (Jvm.Cond.methodLink "com/example/grantgraph/grantgraph/model/SubjectSetTypeToStringPinLaw" (32 : Nat) ({ cls := "java/lang/String", name := "<init>", desc := "([C)V" } : Jvm.MethodName)).before a0 Z = true := hw _ (List.mem_of_getElem? (i := 8) rfl)
theorem tw9 {Z : State} {a0 : Array Value} (hw : ∀ d ∈ tables_1, d.before a0 Z = true) : (Jvm.Cond.instanceMethod ({ cls := "java/lang/String", name := "<init>", desc := "([C)V" } : Jvm.MethodName)).before a0 Z = true := hw _ (List.mem_of_getElem? (i := 9) rfl)
theorem tw10 {Z : State} {a0 : Array Value} (hw : ∀ d ∈ tables_1, d.before a0 Z = true) : (Jvm.Cond.code ({ cls := "java/lang/String", name := "<init>", desc := "([C)V" } : Jvm.MethodName) jdk_42_method_3_code (2 : Nat) (Option.none : Option Jvm.ClassFile.FieldType)).before a0 Z = true := hw _ (List.mem_of_getElem? (i := 10) rfl)
theorem tw11 {Z : State} {a0 : Array Value} (hw : ∀ d ∈ tables_1, d.before a0 Z = true) : (Jvm.Cond.methodLink "java/lang/String" (27 : Nat) ({ cls := "java/lang/String", name := "<init>", desc := "([CIILjava/lang/Void;)V" } : Jvm.MethodName)).before a0 Z = true := hw _ (List.mem_of_getElem? (i := 11) rfl)
theorem tw12 {Z : State} {a0 : Array Value} (hw : ∀ d ∈ tables_1, d.before a0 Z = true) : (Jvm.Cond.instanceMethod ({ cls := "java/lang/String", name := "<init>", desc := "([CIILjava/lang/Void;)V" } : Jvm.MethodName)).before a0 Z = true := hw _ (List.mem_of_getElem? (i := 12) rfl)
theorem tw14 {Z : State} {a0 : Array Value} (hw : ∀ d ∈ tables_1, d.before a0 Z = true) : (Jvm.Cond.code ({ cls := "java/lang/String", name := "<init>", desc := "([CIILjava/lang/Void;)V" } : Jvm.MethodName) jdk_42_method_149_code (6 : Nat) (Option.none : Option Jvm.ClassFile.FieldType)).before a0 Z = true := hw _ (List.mem_of_getElem? (i := 14) rfl)
theorem tw15 {Z : State} {a0 : Array Value} (hw : ∀ d ∈ tables_1, d.before a0 Z = true) : (Jvm.Cond.methodLink "java/lang/String" (1 : Nat) ({ cls := "java/lang/Object", name := "<init>", desc := "()V" } : Jvm.MethodName)).before a0 Z = true := hw _ (List.mem_of_getElem? (i := 15) rfl)
theorem tw16 {Z : State} {a0 : Array Value} (hw : ∀ d ∈ tables_1, d.before a0 Z = true) : (Jvm.Cond.instanceMethod ({ cls := "java/lang/Object", name := "<init>", desc := "()V" } : Jvm.MethodName)).before a0 Z = true := hw _ (List.mem_of_getElem? (i := 16) rfl)
theorem tw17 {Z : State} {a0 : Array Value} (hw : ∀ d ∈ tables_1, d.before a0 Z = true) : (Jvm.Cond.code ({ cls := "java/lang/Object", name := "<init>", desc := "()V" } : Jvm.MethodName) object_method_1_code (1 : Nat) (Option.none : Option Jvm.ClassFile.FieldType)).before a0 Z = true := hw _ (List.mem_of_getElem? (i := 17) rfl)
theorem tw18 {Z : State} {a0 : Array Value} (hw : ∀ d ∈ tables_1, d.before a0 Z = true) : (Jvm.Cond.stringLink "java/lang/String" (7 : Nat) "").before a0 Z = true := hw _ (List.mem_of_getElem? (i := 18) rfl)
theorem tw19 {Z : State} {a0 : Array Value} (hw : ∀ d ∈ tables_1, d.before a0 Z = true) : (Jvm.Cond.arrayClass Jvm.ClassFile.FieldType.byte).before a0 Z = true := hw _ (List.mem_of_getElem? (i := 19) rfl)
theorem tw20 {Z : State} {a0 : Array Value} (hw : ∀ d ∈ tables_1, d.before a0 Z = true) : (Jvm.Cond.laysFinal "java/lang/String" "java/lang/String" "value" "[B").before a0 Z = true := hw _ (List.mem_of_getElem? (i := 20) rfl)
theorem tw21 {Z : State} {a0 : Array Value} (hw : ∀ d ∈ tables_1, d.before a0 Z = true) : (Jvm.Cond.laysFinal "java/lang/String" "java/lang/String" "coder" "B").before a0 Z = true := hw _ (List.mem_of_getElem? (i := 21) rfl)
theorem tw24 {Z : State} {a0 : Array Value} (hw : ∀ d ∈ tables_1, d.before a0 Z = true) : (Jvm.Cond.fieldLink "java/lang/String" (9 : Nat) "java/lang/String" "value" "[B").before a0 Z = true := hw _ (List.mem_of_getElem? (i := 24) rfl)
theorem tw25 {Z : State} {a0 : Array Value} (hw : ∀ d ∈ tables_1, d.before a0 Z = true) : (Jvm.Cond.fieldLink "java/lang/String" (15 : Nat) "java/lang/String" "coder" "B").before a0 Z = true := hw _ (List.mem_of_getElem? (i := 25) rfl)
theorem tw26 {Z : State} {a0 : Array Value} (hw : ∀ d ∈ tables_1, d.before a0 Z = true) : (Jvm.Cond.classLink "com/example/grantgraph/grantgraph/model/SubjectSetTypeToStringPinLaw" (13 : Nat) "com/example/grantgraph/grantgraph/model/SubjectSetType").before a0 Z = true := hw _ (List.mem_of_getElem? (i := 26) rfl)
theorem tw27 {Z : State} {a0 : Array Value} (hw : ∀ d ∈ tables_1, d.before a0 Z = true) : (Jvm.Cond.instantiable "com/example/grantgraph/grantgraph/model/SubjectSetType" (2 : Nat)).before a0 Z = true := hw _ (List.mem_of_getElem? (i := 27) rfl)
theorem tw28 {Z : State} {a0 : Array Value} (hw : ∀ d ∈ tables_1, d.before a0 Z = true) : (Jvm.Cond.initialized "com/example/grantgraph/grantgraph/model/SubjectSetType").before a0 Z = true := hw _ (List.mem_of_getElem? (i := 28) rfl)
theorem tw29 {Z : State} {a0 : Array Value} (hw : ∀ d ∈ tables_1, d.before a0 Z = true) : (Jvm.Cond.methodLink "com/example/grantgraph/grantgraph/model/SubjectSetTypeToStringPinLaw" (15 : Nat) ({ cls := "com/example/grantgraph/grantgraph/model/SubjectSetType", name := "<init>", desc := "(Ljava/lang/String;Ljava/lang/String;)V" } : Jvm.MethodName)).before a0 Z = true := hw _ (List.mem_of_getElem? (i := 29) rfl)
theorem tw30 {Z : State} {a0 : Array Value} (hw : ∀ d ∈ tables_1, d.before a0 Z = true) : (Jvm.Cond.instanceMethod ({ cls := "com/example/grantgraph/grantgraph/model/SubjectSetType", name := "<init>", desc := "(Ljava/lang/String;Ljava/lang/String;)V" } : Jvm.MethodName)).before a0 Z = true := hw _ (List.mem_of_getElem? (i := 30) rfl)
theorem tw31 {Z : State} {a0 : Array Value} (hw : ∀ d ∈ tables_1, d.before a0 Z = true) : (Jvm.Cond.code ({ cls := "com/example/grantgraph/grantgraph/model/SubjectSetType", name := "<init>", desc := "(Ljava/lang/String;Ljava/lang/String;)V" } : Jvm.MethodName) prog_31_method_1_code (3 : Nat) (Option.none : Option Jvm.ClassFile.FieldType)).before a0 Z = true := hw _ (List.mem_of_getElem? (i := 31) rfl)
theorem tw32 {Z : State} {a0 : Array Value} (hw : ∀ d ∈ tables_1, d.before a0 Z = true) : (Jvm.Cond.methodLink "com/example/grantgraph/grantgraph/model/SubjectSetType" (1 : Nat) ({ cls := "java/lang/Record", name := "<init>", desc := "()V" } : Jvm.MethodName)).before a0 Z = true := hw _ (List.mem_of_getElem? (i := 32) rfl)
theorem tw33 {Z : State} {a0 : Array Value} (hw : ∀ d ∈ tables_1, d.before a0 Z = true) : (Jvm.Cond.instanceMethod ({ cls := "java/lang/Record", name := "<init>", desc := "()V" } : Jvm.MethodName)).before a0 Z = true := hw _ (List.mem_of_getElem? (i := 33) rfl)
theorem tw35 {Z : State} {a0 : Array Value} (hw : ∀ d ∈ tables_1, d.before a0 Z = true) : (Jvm.Cond.initialized "java/lang/Record").before a0 Z = true := hw _ (List.mem_of_getElem? (i := 35) rfl)
theorem tw36 {Z : State} {a0 : Array Value} (hw : ∀ d ∈ tables_1, d.before a0 Z = true) : (Jvm.Cond.code ({ cls := "java/lang/Record", name := "<init>", desc := "()V" } : Jvm.MethodName) jdk_30_method_1_code (1 : Nat) (Option.none : Option Jvm.ClassFile.FieldType)).before a0 Z = true := hw _ (List.mem_of_getElem? (i := 36) rfl)
theorem tw37 {Z : State} {a0 : Array Value} (hw : ∀ d ∈ tables_1, d.before a0 Z = true) : (Jvm.Cond.methodLink "java/lang/Record" (1 : Nat) ({ cls := "java/lang/Object", name := "<init>", desc := "()V" } : Jvm.MethodName)).before a0 Z = true := hw _ (List.mem_of_getElem? (i := 37) rfl)
theorem tw38 {Z : State} {a0 : Array Value} (hw : ∀ d ∈ tables_1, d.before a0 Z = true) : (Jvm.Cond.fieldLink "com/example/grantgraph/grantgraph/model/SubjectSetType" (7 : Nat) "com/example/grantgraph/grantgraph/model/SubjectSetType" "type" "Ljava/lang/String;").before a0 Z = true := hw _ (List.mem_of_getElem? (i := 38) rfl)
theorem tw39 {Z : State} {a0 : Array Value} (hw : ∀ d ∈ tables_1, d.before a0 Z = true) : (Jvm.Cond.laysFinal "com/example/grantgraph/grantgraph/model/SubjectSetType" "com/example/grantgraph/grantgraph/model/SubjectSetType" "type" "Ljava/lang/String;").before a0 Z = true := hw _ (List.mem_of_getElem? (i := 39) rfl)
theorem tw40 {Z : State} {a0 : Array Value} (hw : ∀ d ∈ tables_1, d.before a0 Z = true) : (Jvm.Cond.fieldLink "com/example/grantgraph/grantgraph/model/SubjectSetType" (13 : Nat) "com/example/grantgraph/grantgraph/model/SubjectSetType" "relation" "Ljava/lang/String;").before a0 Z = true := hw _ (List.mem_of_getElem? (i := 40) rfl)
theorem tw41 {Z : State} {a0 : Array Value} (hw : ∀ d ∈ tables_1, d.before a0 Z = true) : (Jvm.Cond.laysFinal "com/example/grantgraph/grantgraph/model/SubjectSetType" "com/example/grantgraph/grantgraph/model/SubjectSetType" "relation" "Ljava/lang/String;").before a0 Z = true := hw _ (List.mem_of_getElem? (i := 41) rfl)
theorem tw42 {Z : State} {a0 : Array Value} (hw : ∀ d ∈ tables_1, d.before a0 Z = true) : (Jvm.Cond.methodLink "com/example/grantgraph/grantgraph/model/SubjectSetTypeToStringPinLaw" (18 : Nat) ({ cls := "com/example/grantgraph/grantgraph/model/SubjectSetType", name := "toString", desc := "()Ljava/lang/String;" } : Jvm.MethodName)).before a0 Z = true := hw _ (List.mem_of_getElem? (i := 42) rfl)
theorem tw43 {Z : State} {a0 : Array Value} (hw : ∀ d ∈ tables_1, d.before a0 Z = true) : (Jvm.Cond.declares ({ cls := "com/example/grantgraph/grantgraph/model/SubjectSetType", name := "toString", desc := "()Ljava/lang/String;" } : Jvm.MethodName)).before a0 Z = true := hw _ (List.mem_of_getElem? (i := 43) rfl)
theorem tw44 {Z : State} {a0 : Array Value} (hw : ∀ d ∈ tables_1, d.before a0 Z = true) : (Jvm.Cond.instanceMethod ({ cls := "com/example/grantgraph/grantgraph/model/SubjectSetType", name := "toString", desc := "()Ljava/lang/String;" } : Jvm.MethodName)).before a0 Z = true := hw _ (List.mem_of_getElem? (i := 44) rfl)
theorem tw45 {Z : State} {a0 : Array Value} (hw : ∀ d ∈ tables_1, d.before a0 Z = true) : (Jvm.Cond.selects "com/example/grantgraph/grantgraph/model/SubjectSetType" ({ cls := "com/example/grantgraph/grantgraph/model/SubjectSetType", name := "toString", desc := "()Ljava/lang/String;" } : Jvm.MethodName) ({ cls := "com/example/grantgraph/grantgraph/model/SubjectSetType", name := "toString", desc := "()Ljava/lang/String;" } : Jvm.MethodName)).before a0 Z = true := hw _ (List.mem_of_getElem? (i := 45) rfl)
theorem tw46 {Z : State} {a0 : Array Value} (hw : ∀ d ∈ tables_1, d.before a0 Z = true) : (Jvm.Cond.code ({ cls := "com/example/grantgraph/grantgraph/model/SubjectSetType", name := "toString", desc := "()Ljava/lang/String;" } : Jvm.MethodName) prog_31_method_2_code (1 : Nat) (Option.some (Jvm.ClassFile.FieldType.object "java/lang/String"))).before a0 Z = true := hw _ (List.mem_of_getElem? (i := 46) rfl)
theorem tw47 {Z : State} {a0 : Array Value} (hw : ∀ d ∈ tables_1, d.before a0 Z = true) : (Jvm.Cond.classLink "com/example/grantgraph/grantgraph/model/SubjectSetType" (16 : Nat) "java/lang/StringBuilder").before a0 Z = true := hw _ (List.mem_of_getElem? (i := 47) rfl)
theorem tw48 {Z : State} {a0 : Array Value} (hw : ∀ d ∈ tables_1, d.before a0 Z = true) : (Jvm.Cond.instantiable "java/lang/StringBuilder" (4 : Nat)).before a0 Z = true := hw _ (List.mem_of_getElem? (i := 48) rfl)
theorem tw49 {Z : State} {a0 : Array Value} (hw : ∀ d ∈ tables_1, d.before a0 Z = true) : (Jvm.Cond.initialized "java/lang/StringBuilder").before a0 Z = true := hw _ (List.mem_of_getElem? (i := 49) rfl)
theorem tw50 {Z : State} {a0 : Array Value} (hw : ∀ d ∈ tables_1, d.before a0 Z = true) : (Jvm.Cond.methodLink "com/example/grantgraph/grantgraph/model/SubjectSetType" (18 : Nat) ({ cls := "java/lang/StringBuilder", name := "<init>", desc := "()V" } : Jvm.MethodName)).before a0 Z = true := hw _ (List.mem_of_getElem? (i := 50) rfl)
theorem tw51 {Z : State} {a0 : Array Value} (hw : ∀ d ∈ tables_1, d.before a0 Z = true) : (Jvm.Cond.instanceMethod ({ cls := "java/lang/StringBuilder", name := "<init>", desc := "()V" } : Jvm.MethodName)).before a0 Z = true := hw _ (List.mem_of_getElem? (i := 51) rfl)
theorem tw52 {Z : State} {a0 : Array Value} (hw : ∀ d ∈ tables_1, d.before a0 Z = true) : (Jvm.Cond.code ({ cls := "java/lang/StringBuilder", name := "<init>", desc := "()V" } : Jvm.MethodName) jdk_67_method_1_code (1 : Nat) (Option.none : Option Jvm.ClassFile.FieldType)).before a0 Z = true := hw _ (List.mem_of_getElem? (i := 52) rfl)
theorem tw53 {Z : State} {a0 : Array Value} (hw : ∀ d ∈ tables_1, d.before a0 Z = true) : (Jvm.Cond.methodLink "java/lang/StringBuilder" (1 : Nat) ({ cls := "java/lang/AbstractStringBuilder", name := "<init>", desc := "(I)V" } : Jvm.MethodName)).before a0 Z = true := hw _ (List.mem_of_getElem? (i := 53) rfl)
theorem tw54 {Z : State} {a0 : Array Value} (hw : ∀ d ∈ tables_1, d.before a0 Z = true) : (Jvm.Cond.instanceMethod ({ cls := "java/lang/AbstractStringBuilder", name := "<init>", desc := "(I)V" } : Jvm.MethodName)).before a0 Z = true := hw _ (List.mem_of_getElem? (i := 54) rfl)
theorem tw57 {Z : State} {a0 : Array Value} (hw : ∀ d ∈ tables_1, d.before a0 Z = true) : (Jvm.Cond.initialized "java/lang/AbstractStringBuilder").before a0 Z = true := hw _ (List.mem_of_getElem? (i := 57) rfl)
theorem tw58 {Z : State} {a0 : Array Value} (hw : ∀ d ∈ tables_1, d.before a0 Z = true) : (Jvm.Cond.code ({ cls := "java/lang/AbstractStringBuilder", name := "<init>", desc := "(I)V" } : Jvm.MethodName) jdk_68_method_2_code (2 : Nat) (Option.none : Option Jvm.ClassFile.FieldType)).before a0 Z = true := hw _ (List.mem_of_getElem? (i := 58) rfl)
theorem tw59 {Z : State} {a0 : Array Value} (hw : ∀ d ∈ tables_1, d.before a0 Z = true) : (Jvm.Cond.methodLink "java/lang/AbstractStringBuilder" (3 : Nat) ({ cls := "java/lang/Object", name := "<init>", desc := "()V" } : Jvm.MethodName)).before a0 Z = true := hw _ (List.mem_of_getElem? (i := 59) rfl)
theorem tw60 {Z : State} {a0 : Array Value} (hw : ∀ d ∈ tables_1, d.before a0 Z = true) : (Jvm.Cond.fieldLink "java/lang/AbstractStringBuilder" (18 : Nat) "java/lang/String" "COMPACT_STRINGS" "Z").before a0 Z = true := hw _ (List.mem_of_getElem? (i := 60) rfl)
theorem tw61 {Z : State} {a0 : Array Value} (hw : ∀ d ∈ tables_1, d.before a0 Z = true) : (Jvm.Cond.fieldLink "java/lang/AbstractStringBuilder" (15 : Nat) "java/lang/AbstractStringBuilder" "value" "[B").before a0 Z = true := hw _ (List.mem_of_getElem? (i := 61) rfl)
theorem tw62 {Z : State} {a0 : Array Value} (hw : ∀ d ∈ tables_1, d.before a0 Z = true) : (Jvm.Cond.lays "java/lang/StringBuilder" "java/lang/AbstractStringBuilder" "value" "[B").before a0 Z = true := hw _ (List.mem_of_getElem? (i := 62) rfl)
theorem tw63 {Z : State} {a0 : Array Value} (hw : ∀ d ∈ tables_1, d.before a0 Z = true) : (Jvm.Cond.fieldLink "java/lang/AbstractStringBuilder" (22 : Nat) "java/lang/AbstractStringBuilder" "coder" "B").before a0 Z = true := hw _ (List.mem_of_getElem? (i := 63) rfl)
theorem tw64 {Z : State} {a0 : Array Value} (hw : ∀ d ∈ tables_1, d.before a0 Z = true) : (Jvm.Cond.lays "java/lang/StringBuilder" "java/lang/AbstractStringBuilder" "coder" "B").before a0 Z = true := hw _ (List.mem_of_getElem? (i := 64) rfl)
theorem tw65 {Z : State} {a0 : Array Value} (hw : ∀ d ∈ tables_1, d.before a0 Z = true) : (Jvm.Cond.methodLink "com/example/grantgraph/grantgraph/model/SubjectSetType" (19 : Nat) ({ cls := "java/lang/StringBuilder", name := "append", desc := "(Ljava/lang/String;)Ljava/lang/StringBuilder;" } : Jvm.MethodName)).before a0 Z = true := hw _ (List.mem_of_getElem? (i := 65) rfl)
theorem tw66 {Z : State} {a0 : Array Value} (hw : ∀ d ∈ tables_1, d.before a0 Z = true) : (Jvm.Cond.declares ({ cls := "java/lang/StringBuilder", name := "append", desc := "(Ljava/lang/String;)Ljava/lang/StringBuilder;" } : Jvm.MethodName)).before a0 Z = true := hw _ (List.mem_of_getElem? (i := 66) rfl)
theorem tw67 {Z : State} {a0 : Array Value} (hw : ∀ d ∈ tables_1, d.before a0 Z = true) : (Jvm.Cond.instanceMethod ({ cls := "java/lang/StringBuilder", name := "append", desc := "(Ljava/lang/String;)Ljava/lang/StringBuilder;" } : Jvm.MethodName)).before a0 Z = true := hw _ (List.mem_of_getElem? (i := 67) rfl)
theorem tw68 {Z : State} {a0 : Array Value} (hw : ∀ d ∈ tables_1, d.before a0 Z = true) : (Jvm.Cond.selects "java/lang/StringBuilder" ({ cls := "java/lang/StringBuilder", name := "append", desc := "(Ljava/lang/String;)Ljava/lang/StringBuilder;" } : Jvm.MethodName) ({ cls := "java/lang/StringBuilder", name := "append", desc := "(Ljava/lang/String;)Ljava/lang/StringBuilder;" } : Jvm.MethodName)).before a0 Z = true := hw _ (List.mem_of_getElem? (i := 68) rfl)
theorem tw69 {Z : State} {a0 : Array Value} (hw : ∀ d ∈ tables_1, d.before a0 Z = true) : (Jvm.Cond.code ({ cls := "java/lang/StringBuilder", name := "append", desc := "(Ljava/lang/String;)Ljava/lang/StringBuilder;" } : Jvm.MethodName) jdk_67_method_7_code (2 : Nat) (Option.some (Jvm.ClassFile.FieldType.object "java/lang/StringBuilder"))).before a0 Z = true := hw _ (List.mem_of_getElem? (i := 69) rfl)
theorem tw70 {Z : State} {a0 : Array Value} (hw : ∀ d ∈ tables_1, d.before a0 Z = true) : (Jvm.Cond.methodLink "java/lang/StringBuilder" (29 : Nat) ({ cls := "java/lang/AbstractStringBuilder", name := "append", desc := "(Ljava/lang/String;)Ljava/lang/AbstractStringBuilder;" } : Jvm.MethodName)).before a0 Z = true := hw _ (List.mem_of_getElem? (i := 70) rfl)
theorem tw71 {Z : State} {a0 : Array Value} (hw : ∀ d ∈ tables_1, d.before a0 Z = true) : (Jvm.Cond.instanceMethod ({ cls := "java/lang/AbstractStringBuilder", name := "append", desc := "(Ljava/lang/String;)Ljava/lang/AbstractStringBuilder;" } : Jvm.MethodName)).before a0 Z = true := hw _ (List.mem_of_getElem? (i := 71) rfl)
theorem tw72 {Z : State} {a0 : Array Value} (hw : ∀ d ∈ tables_1, d.before a0 Z = true) : (Jvm.Cond.superclass "java/lang/StringBuilder" "java/lang/AbstractStringBuilder").before a0 Z = true := hw _ (List.mem_of_getElem? (i := 72) rfl)
theorem tw74 {Z : State} {a0 : Array Value} (hw : ∀ d ∈ tables_1, d.before a0 Z = true) : (Jvm.Cond.code ({ cls := "java/lang/AbstractStringBuilder", name := "append", desc := "(Ljava/lang/String;)Ljava/lang/AbstractStringBuilder;" } : Jvm.MethodName) jdk_68_method_22_code (3 : Nat) (Option.some (Jvm.ClassFile.FieldType.object "java/lang/AbstractStringBuilder"))).before a0 Z = true := hw _ (List.mem_of_getElem? (i := 74) rfl)
theorem tw75 {Z : State} {a0 : Array Value} (hw : ∀ d ∈ tables_1, d.before a0 Z = true) : (Jvm.Cond.methodLink "java/lang/AbstractStringBuilder" (32 : Nat) ({ cls := "java/lang/String", name := "length", desc := "()I" } : Jvm.MethodName)).before a0 Z = true := hw _ (List.mem_of_getElem? (i := 75) rfl)
theorem tw76 {Z : State} {a0 : Array Value} (hw : ∀ d ∈ tables_1, d.before a0 Z = true) : (Jvm.Cond.declares ({ cls := "java/lang/String", name := "length", desc := "()I" } : Jvm.MethodName)).before a0 Z = true := hw _ (List.mem_of_getElem? (i := 76) rfl)
theorem tw77 {Z : State} {a0 : Array Value} (hw : ∀ d ∈ tables_1, d.before a0 Z = true) : (Jvm.Cond.instanceMethod ({ cls := "java/lang/String", name := "length", desc := "()I" } : Jvm.MethodName)).before a0 Z = true := hw _ (List.mem_of_getElem? (i := 77) rfl)
theorem tw78 {Z : State} {a0 : Array Value} (hw : ∀ d ∈ tables_1, d.before a0 Z = true) : (Jvm.Cond.selects "java/lang/String" ({ cls := "java/lang/String", name := "length", desc := "()I" } : Jvm.MethodName) ({ cls := "java/lang/String", name := "length", desc := "()I" } : Jvm.MethodName)).before a0 Z = true := hw _ (List.mem_of_getElem? (i := 78) rfl)
theorem tw79 {Z : State} {a0 : Array Value} (hw : ∀ d ∈ tables_1, d.before a0 Z = true) : (Jvm.Cond.code ({ cls := "java/lang/String", name := "length", desc := "()I" } : Jvm.MethodName) jdk_42_method_54_code (1 : Nat) (Option.some Jvm.ClassFile.FieldType.int)).before a0 Z = true := hw _ (List.mem_of_getElem? (i := 79) rfl)
theorem tw80 {Z : State} {a0 : Array Value} (hw : ∀ d ∈ tables_1, d.before a0 Z = true) : (Jvm.Cond.methodLink "java/lang/String" (335 : Nat) ({ cls := "java/lang/String", name := "coder", desc := "()B" } : Jvm.MethodName)).before a0 Z = true := hw _ (List.mem_of_getElem? (i := 80) rfl)
theorem tw81 {Z : State} {a0 : Array Value} (hw : ∀ d ∈ tables_1, d.before a0 Z = true) : (Jvm.Cond.declares ({ cls := "java/lang/String", name := "coder", desc := "()B" } : Jvm.MethodName)).before a0 Z = true := hw _ (List.mem_of_getElem? (i := 81) rfl)
theorem tw82 {Z : State} {a0 : Array Value} (hw : ∀ d ∈ tables_1, d.before a0 Z = true) : (Jvm.Cond.instanceMethod ({ cls := "java/lang/String", name := "coder", desc := "()B" } : Jvm.MethodName)).before a0 Z = true := hw _ (List.mem_of_getElem? (i := 82) rfl)
theorem tw83 {Z : State} {a0 : Array Value} (hw : ∀ d ∈ tables_1, d.before a0 Z = true) : (Jvm.Cond.selects "java/lang/String" ({ cls := "java/lang/String", name := "coder", desc := "()B" } : Jvm.MethodName) ({ cls := "java/lang/String", name := "coder", desc := "()B" } : Jvm.MethodName)).before a0 Z = true := hw _ (List.mem_of_getElem? (i := 83) rfl)
theorem tw84 {Z : State} {a0 : Array Value} (hw : ∀ d ∈ tables_1, d.before a0 Z = true) : (Jvm.Cond.code ({ cls := "java/lang/String", name := "coder", desc := "()B" } : Jvm.MethodName) jdk_42_method_152_code (1 : Nat) (Option.some Jvm.ClassFile.FieldType.byte)).before a0 Z = true := hw _ (List.mem_of_getElem? (i := 84) rfl)
theorem tw85 {Z : State} {a0 : Array Value} (hw : ∀ d ∈ tables_1, d.before a0 Z = true) : (Jvm.Cond.fieldLink "java/lang/String" (38 : Nat) "java/lang/String" "COMPACT_STRINGS" "Z").before a0 Z = true := hw _ (List.mem_of_getElem? (i := 85) rfl)
theorem tw86 {Z : State} {a0 : Array Value} (hw : ∀ d ∈ tables_1, d.before a0 Z = true) : (Jvm.Cond.fieldLink "java/lang/AbstractStringBuilder" (79 : Nat) "java/lang/AbstractStringBuilder" "count" "I").before a0 Z = true := hw _ (List.mem_of_getElem? (i := 86) rfl)
theorem tw87 {Z : State} {a0 : Array Value} (hw : ∀ d ∈ tables_1, d.before a0 Z = true) : (Jvm.Cond.lays "java/lang/StringBuilder" "java/lang/AbstractStringBuilder" "count" "I").before a0 Z = true := hw _ (List.mem_of_getElem? (i := 87) rfl)
theorem tw88 {Z : State} {a0 : Array Value} (hw : ∀ d ∈ tables_1, d.before a0 Z = true) : (Jvm.Cond.methodLink "java/lang/AbstractStringBuilder" (100 : Nat) ({ cls := "java/lang/AbstractStringBuilder", name := "ensureCapacityInternal", desc := "(I)V" } : Jvm.MethodName)).before a0 Z = true := hw _ (List.mem_of_getElem? (i := 88) rfl)
theorem tw89 {Z : State} {a0 : Array Value} (hw : ∀ d ∈ tables_1, d.before a0 Z = true) : (Jvm.Cond.instanceMethod ({ cls := "java/lang/AbstractStringBuilder", name := "ensureCapacityInternal", desc := "(I)V" } : Jvm.MethodName)).before a0 Z = true := hw _ (List.mem_of_getElem? (i := 89) rfl)
theorem tw90 {Z : State} {a0 : Array Value} (hw : ∀ d ∈ tables_1, d.before a0 Z = true) : (Jvm.Cond.privateMethod ({ cls := "java/lang/AbstractStringBuilder", name := "ensureCapacityInternal", desc := "(I)V" } : Jvm.MethodName)).before a0 Z = true := hw _ (List.mem_of_getElem? (i := 90) rfl)
theorem tw91 {Z : State} {a0 : Array Value} (hw : ∀ d ∈ tables_1, d.before a0 Z = true) : (Jvm.Cond.selects "java/lang/StringBuilder" ({ cls := "java/lang/AbstractStringBuilder", name := "ensureCapacityInternal", desc := "(I)V" } : Jvm.MethodName) ({ cls := "java/lang/AbstractStringBuilder", name := "ensureCapacityInternal", desc := "(I)V" } : Jvm.MethodName)).before a0 Z = true := hw _ (List.mem_of_getElem? (i := 91) rfl)
theorem tw92 {Z : State} {a0 : Array Value} (hw : ∀ d ∈ tables_1, d.before a0 Z = true) : (Jvm.Cond.code ({ cls := "java/lang/AbstractStringBuilder", name := "ensureCapacityInternal", desc := "(I)V" } : Jvm.MethodName) jdk_68_method_9_code (3 : Nat) (Option.none : Option Jvm.ClassFile.FieldType)).before a0 Z = true := hw _ (List.mem_of_getElem? (i := 92) rfl)
theorem tw93 {Z : State} {a0 : Array Value} (hw : ∀ d ∈ tables_1, d.before a0 Z = true) : (Jvm.Cond.methodLink "java/lang/AbstractStringBuilder" (208 : Nat) ({ cls := "java/lang/AbstractStringBuilder", name := "putStringAt", desc := "(ILjava/lang/String;)V" } : Jvm.MethodName)).before a0 Z = true := hw _ (List.mem_of_getElem? (i := 93) rfl)
theorem tw94 {Z : State} {a0 : Array Value} (hw : ∀ d ∈ tables_1, d.before a0 Z = true) : (Jvm.Cond.instanceMethod ({ cls := "java/lang/AbstractStringBuilder", name := "putStringAt", desc := "(ILjava/lang/String;)V" } : Jvm.MethodName)).before a0 Z = true := hw _ (List.mem_of_getElem? (i := 94) rfl)
theorem tw95 {Z : State} {a0 : Array Value} (hw : ∀ d ∈ tables_1, d.before a0 Z = true) : (Jvm.Cond.privateMethod ({ cls := "java/lang/AbstractStringBuilder", name := "putStringAt", desc := "(ILjava/lang/String;)V" } : Jvm.MethodName)).before a0 Z = true := hw _ (List.mem_of_getElem? (i := 95) rfl)
theorem tw96 {Z : State} {a0 : Array Value} (hw : ∀ d ∈ tables_1, d.before a0 Z = true) : (Jvm.Cond.selects "java/lang/StringBuilder" ({ cls := "java/lang/AbstractStringBuilder", name := "putStringAt", desc := "(ILjava/lang/String;)V" } : Jvm.MethodName) ({ cls := "java/lang/AbstractStringBuilder", name := "putStringAt", desc := "(ILjava/lang/String;)V" } : Jvm.MethodName)).before a0 Z = true := hw _ (List.mem_of_getElem? (i := 96) rfl)
theorem tw97 {Z : State} {a0 : Array Value} (hw : ∀ d ∈ tables_1, d.before a0 Z = true) : (Jvm.Cond.code ({ cls := "java/lang/AbstractStringBuilder", name := "putStringAt", desc := "(ILjava/lang/String;)V" } : Jvm.MethodName) jdk_68_method_73_code (3 : Nat) (Option.none : Option Jvm.ClassFile.FieldType)).before a0 Z = true := hw _ (List.mem_of_getElem? (i := 97) rfl)
theorem tw98 {Z : State} {a0 : Array Value} (hw : ∀ d ∈ tables_1, d.before a0 Z = true) : (Jvm.Cond.methodLink "java/lang/AbstractStringBuilder" (397 : Nat) ({ cls := "java/lang/AbstractStringBuilder", name := "inflateIfNeededFor", desc := "(Ljava/lang/String;)V" } : Jvm.MethodName)).before a0 Z = true := hw _ (List.mem_of_getElem? (i := 98) rfl)
theorem tw99 {Z : State} {a0 : Array Value} (hw : ∀ d ∈ tables_1, d.before a0 Z = true) : (Jvm.Cond.instanceMethod ({ cls := "java/lang/AbstractStringBuilder", name := "inflateIfNeededFor", desc := "(Ljava/lang/String;)V" } : Jvm.MethodName)).before a0 Z = true := hw _ (List.mem_of_getElem? (i := 99) rfl)
theorem tw100 {Z : State} {a0 : Array Value} (hw : ∀ d ∈ tables_1, d.before a0 Z = true) : (Jvm.Cond.privateMethod ({ cls := "java/lang/AbstractStringBuilder", name := "inflateIfNeededFor", desc := "(Ljava/lang/String;)V" } : Jvm.MethodName)).before a0 Z = true := hw _ (List.mem_of_getElem? (i := 100) rfl)
theorem tw101 {Z : State} {a0 : Array Value} (hw : ∀ d ∈ tables_1, d.before a0 Z = true) : (Jvm.Cond.selects "java/lang/StringBuilder" ({ cls := "java/lang/AbstractStringBuilder", name := "inflateIfNeededFor", desc := "(Ljava/lang/String;)V" } : Jvm.MethodName) ({ cls := "java/lang/AbstractStringBuilder", name := "inflateIfNeededFor", desc := "(Ljava/lang/String;)V" } : Jvm.MethodName)).before a0 Z = true := hw _ (List.mem_of_getElem? (i := 101) rfl)
theorem tw102 {Z : State} {a0 : Array Value} (hw : ∀ d ∈ tables_1, d.before a0 Z = true) : (Jvm.Cond.code ({ cls := "java/lang/AbstractStringBuilder", name := "inflateIfNeededFor", desc := "(Ljava/lang/String;)V" } : Jvm.MethodName) jdk_68_method_71_code (2 : Nat) (Option.none : Option Jvm.ClassFile.FieldType)).before a0 Z = true := hw _ (List.mem_of_getElem? (i := 102) rfl)
theorem tw103 {Z : State} {a0 : Array Value} (hw : ∀ d ∈ tables_1, d.before a0 Z = true) : (Jvm.Cond.methodLink "java/lang/AbstractStringBuilder" (40 : Nat) ({ cls := "java/lang/String", name := "coder", desc := "()B" } : Jvm.MethodName)).before a0 Z = true := hw _ (List.mem_of_getElem? (i := 103) rfl)
theorem tw104 {Z : State} {a0 : Array Value} (hw : ∀ d ∈ tables_1, d.before a0 Z = true) : (Jvm.Cond.methodLink "java/lang/AbstractStringBuilder" (399 : Nat) ({ cls := "java/lang/String", name := "getBytes", desc := "([BIB)V" } : Jvm.MethodName)).before a0 Z = true := hw _ (List.mem_of_getElem? (i := 104) rfl)
theorem tw105 {Z : State} {a0 : Array Value} (hw : ∀ d ∈ tables_1, d.before a0 Z = true) : (Jvm.Cond.declares ({ cls := "java/lang/String", name := "getBytes", desc := "([BIB)V" } : Jvm.MethodName)).before a0 Z = true := hw _ (List.mem_of_getElem? (i := 105) rfl)
theorem tw106 {Z : State} {a0 : Array Value} (hw : ∀ d ∈ tables_1, d.before a0 Z = true) : (Jvm.Cond.instanceMethod ({ cls := "java/lang/String", name := "getBytes", desc := "([BIB)V" } : Jvm.MethodName)).before a0 Z = true := hw _ (List.mem_of_getElem? (i := 106) rfl)
theorem tw107 {Z : State} {a0 : Array Value} (hw : ∀ d ∈ tables_1, d.before a0 Z = true) : (Jvm.Cond.selects "java/lang/String" ({ cls := "java/lang/String", name := "getBytes", desc := "([BIB)V" } : Jvm.MethodName) ({ cls := "java/lang/String", name := "getBytes", desc := "([BIB)V" } : Jvm.MethodName)).before a0 Z = true := hw _ (List.mem_of_getElem? (i := 107) rfl)
theorem tw108 {Z : State} {a0 : Array Value} (hw : ∀ d ∈ tables_1, d.before a0 Z = true) : (Jvm.Cond.code ({ cls := "java/lang/String", name := "getBytes", desc := "([BIB)V" } : Jvm.MethodName) jdk_42_method_147_code (4 : Nat) (Option.none : Option Jvm.ClassFile.FieldType)).before a0 Z = true := hw _ (List.mem_of_getElem? (i := 108) rfl)
theorem tw109 {Z : State} {a0 : Array Value} (hw : ∀ d ∈ tables_1, d.before a0 Z = true) : (Jvm.Cond.methodLink "java/lang/String" (212 : Nat) ({ cls := "java/lang/System", name := "arraycopy", desc := "(Ljava/lang/Object;ILjava/lang/Object;II)V" } : Jvm.MethodName)).before a0 Z = true := hw _ (List.mem_of_getElem? (i := 109) rfl)
theorem tw110 {Z : State} {a0 : Array Value} (hw : ∀ d ∈ tables_1, d.before a0 Z = true) : (Jvm.Cond.static ({ cls := "java/lang/System", name := "arraycopy", desc := "(Ljava/lang/Object;ILjava/lang/Object;II)V" } : Jvm.MethodName)).before a0 Z = true := hw _ (List.mem_of_getElem? (i := 110) rfl)
theorem tw111 {Z : State} {a0 : Array Value} (hw : ∀ d ∈ tables_1, d.before a0 Z = true) : (Jvm.Cond.initialized "java/lang/System").before a0 Z = true := hw _ (List.mem_of_getElem? (i := 111) rfl)
theorem tw112 {Z : State} {a0 : Array Value} (hw : ∀ d ∈ tables_1, d.before a0 Z = true) : (Jvm.Cond.native ({ cls := "java/lang/System", name := "arraycopy", desc := "(Ljava/lang/Object;ILjava/lang/Object;II)V" } : Jvm.MethodName)).before a0 Z = true := hw _ (List.mem_of_getElem? (i := 112) rfl)
theorem tw113 {Z : State} {a0 : Array Value} (hw : ∀ d ∈ tables_1, d.before a0 Z = true) : (Jvm.Cond.stringLink "com/example/grantgraph/grantgraph/model/SubjectSetType" (23 : Nat) "#").before a0 Z = true := hw _ (List.mem_of_getElem? (i := 113) rfl)
theorem tw114 {Z : State} {a0 : Array Value} (hw : ∀ d ∈ tables_1, d.before a0 Z = true) : (Jvm.Cond.methodLink "com/example/grantgraph/grantgraph/model/SubjectSetType" (25 : Nat) ({ cls := "java/lang/StringBuilder", name := "toString", desc := "()Ljava/lang/String;" } : Jvm.MethodName)).before a0 Z = true := hw _ (List.mem_of_getElem? (i := 114) rfl)
theorem tw115 {Z : State} {a0 : Array Value} (hw : ∀ d ∈ tables_1, d.before a0 Z = true) : (Jvm.Cond.declares ({ cls := "java/lang/StringBuilder", name := "toString", desc := "()Ljava/lang/String;" } : Jvm.MethodName)).before a0 Z = true := hw _ (List.mem_of_getElem? (i := 115) rfl)
theorem tw116 {Z : State} {a0 : Array Value} (hw : ∀ d ∈ tables_1, d.before a0 Z = true) : (Jvm.Cond.instanceMethod ({ cls := "java/lang/StringBuilder", name := "toString", desc := "()Ljava/lang/String;" } : Jvm.MethodName)).before a0 Z = true := hw _ (List.mem_of_getElem? (i := 116) rfl)
theorem tw117 {Z : State} {a0 : Array Value} (hw : ∀ d ∈ tables_1, d.before a0 Z = true) : (Jvm.Cond.selects "java/lang/StringBuilder" ({ cls := "java/lang/StringBuilder", name := "toString", desc := "()Ljava/lang/String;" } : Jvm.MethodName) ({ cls := "java/lang/StringBuilder", name := "toString", desc := "()Ljava/lang/String;" } : Jvm.MethodName)).before a0 Z = true := hw _ (List.mem_of_getElem? (i := 117) rfl)
theorem tw118 {Z : State} {a0 : Array Value} (hw : ∀ d ∈ tables_1, d.before a0 Z = true) : (Jvm.Cond.code ({ cls := "java/lang/StringBuilder", name := "toString", desc := "()Ljava/lang/String;" } : Jvm.MethodName) jdk_67_method_42_code (1 : Nat) (Option.some (Jvm.ClassFile.FieldType.object "java/lang/String"))).before a0 Z = true := hw _ (List.mem_of_getElem? (i := 118) rfl)
theorem tw119 {Z : State} {a0 : Array Value} (hw : ∀ d ∈ tables_1, d.before a0 Z = true) : (Jvm.Cond.classLink "java/lang/StringBuilder" (18 : Nat) "java/lang/String").before a0 Z = true := hw _ (List.mem_of_getElem? (i := 119) rfl)
theorem tw120 {Z : State} {a0 : Array Value} (hw : ∀ d ∈ tables_1, d.before a0 Z = true) : (Jvm.Cond.methodLink "java/lang/StringBuilder" (137 : Nat) ({ cls := "java/lang/String", name := "<init>", desc := "(Ljava/lang/StringBuilder;)V" } : Jvm.MethodName)).before a0 Z = true := hw _ (List.mem_of_getElem? (i := 120) rfl)
theorem tw121 {Z : State} {a0 : Array Value} (hw : ∀ d ∈ tables_1, d.before a0 Z = true) : (Jvm.Cond.instanceMethod ({ cls := "java/lang/String", name := "<init>", desc := "(Ljava/lang/StringBuilder;)V" } : Jvm.MethodName)).before a0 Z = true := hw _ (List.mem_of_getElem? (i := 121) rfl)
theorem tw122 {Z : State} {a0 : Array Value} (hw : ∀ d ∈ tables_1, d.before a0 Z = true) : (Jvm.Cond.code ({ cls := "java/lang/String", name := "<init>", desc := "(Ljava/lang/StringBuilder;)V" } : Jvm.MethodName) jdk_42_method_53_code (2 : Nat) (Option.none : Option Jvm.ClassFile.FieldType)).before a0 Z = true := hw _ (List.mem_of_getElem? (i := 122) rfl)
theorem tw123 {Z : State} {a0 : Array Value} (hw : ∀ d ∈ tables_1, d.before a0 Z = true) : (Jvm.Cond.methodLink "java/lang/String" (489 : Nat) ({ cls := "java/lang/String", name := "<init>", desc := "(Ljava/lang/AbstractStringBuilder;Ljava/lang/Void;)V" } : Jvm.MethodName)).before a0 Z = true := hw _ (List.mem_of_getElem? (i := 123) rfl)
theorem tw124 {Z : State} {a0 : Array Value} (hw : ∀ d ∈ tables_1, d.before a0 Z = true) : (Jvm.Cond.instanceMethod ({ cls := "java/lang/String", name := "<init>", desc := "(Ljava/lang/AbstractStringBuilder;Ljava/lang/Void;)V" } : Jvm.MethodName)).before a0 Z = true := hw _ (List.mem_of_getElem? (i := 124) rfl)
theorem tw125 {Z : State} {a0 : Array Value} (hw : ∀ d ∈ tables_1, d.before a0 Z = true) : (Jvm.Cond.code ({ cls := "java/lang/String", name := "<init>", desc := "(Ljava/lang/AbstractStringBuilder;Ljava/lang/Void;)V" } : Jvm.MethodName) jdk_42_method_150_code (5 : Nat) (Option.none : Option Jvm.ClassFile.FieldType)).before a0 Z = true := hw _ (List.mem_of_getElem? (i := 125) rfl)
theorem tw126 {Z : State} {a0 : Array Value} (hw : ∀ d ∈ tables_1, d.before a0 Z = true) : (Jvm.Cond.methodLink "java/lang/String" (552 : Nat) ({ cls := "java/lang/AbstractStringBuilder", name := "getValue", desc := "()[B" } : Jvm.MethodName)).before a0 Z = true := hw _ (List.mem_of_getElem? (i := 126) rfl)
theorem tw127 {Z : State} {a0 : Array Value} (hw : ∀ d ∈ tables_1, d.before a0 Z = true) : (Jvm.Cond.declares ({ cls := "java/lang/AbstractStringBuilder", name := "getValue", desc := "()[B" } : Jvm.MethodName)).before a0 Z = true := hw _ (List.mem_of_getElem? (i := 127) rfl)
theorem tw128 {Z : State} {a0 : Array Value} (hw : ∀ d ∈ tables_1, d.before a0 Z = true) : (Jvm.Cond.instanceMethod ({ cls := "java/lang/AbstractStringBuilder", name := "getValue", desc := "()[B" } : Jvm.MethodName)).before a0 Z = true := hw _ (List.mem_of_getElem? (i := 128) rfl)
theorem tw129 {Z : State} {a0 : Array Value} (hw : ∀ d ∈ tables_1, d.before a0 Z = true) : (Jvm.Cond.selects "java/lang/StringBuilder" ({ cls := "java/lang/AbstractStringBuilder", name := "getValue", desc := "()[B" } : Jvm.MethodName) ({ cls := "java/lang/AbstractStringBuilder", name := "getValue", desc := "()[B" } : Jvm.MethodName)).before a0 Z = true := hw _ (List.mem_of_getElem? (i := 129) rfl)
theorem tw130 {Z : State} {a0 : Array Value} (hw : ∀ d ∈ tables_1, d.before a0 Z = true) : (Jvm.Cond.code ({ cls := "java/lang/AbstractStringBuilder", name := "getValue", desc := "()[B" } : Jvm.MethodName) jdk_68_method_64_code (1 : Nat) (Option.some (Jvm.ClassFile.FieldType.array Jvm.ClassFile.FieldType.byte))).before a0 Z = true := hw _ (List.mem_of_getElem? (i := 130) rfl)
theorem tw131 {Z : State} {a0 : Array Value} (hw : ∀ d ∈ tables_1, d.before a0 Z = true) : (Jvm.Cond.methodLink "java/lang/String" (549 : Nat) ({ cls := "java/lang/AbstractStringBuilder", name := "length", desc := "()I" } : Jvm.MethodName)).before a0 Z = true := hw _ (List.mem_of_getElem? (i := 131) rfl)
theorem tw132 {Z : State} {a0 : Array Value} (hw : ∀ d ∈ tables_1, d.before a0 Z = true) : (Jvm.Cond.declares ({ cls := "java/lang/AbstractStringBuilder", name := "length", desc := "()I" } : Jvm.MethodName)).before a0 Z = true := hw _ (List.mem_of_getElem? (i := 132) rfl)
theorem tw133 {Z : State} {a0 : Array Value} (hw : ∀ d ∈ tables_1, d.before a0 Z = true) : (Jvm.Cond.instanceMethod ({ cls := "java/lang/AbstractStringBuilder", name := "length", desc := "()I" } : Jvm.MethodName)).before a0 Z = true := hw _ (List.mem_of_getElem? (i := 133) rfl)
theorem tw134 {Z : State} {a0 : Array Value} (hw : ∀ d ∈ tables_1, d.before a0 Z = true) : (Jvm.Cond.selects "java/lang/StringBuilder" ({ cls := "java/lang/AbstractStringBuilder", name := "length", desc := "()I" } : Jvm.MethodName) ({ cls := "java/lang/StringBuilder", name := "length", desc := "()I" } : Jvm.MethodName)).before a0 Z = true := hw _ (List.mem_of_getElem? (i := 134) rfl)
theorem tw135 {Z : State} {a0 : Array Value} (hw : ∀ d ∈ tables_1, d.before a0 Z = true) : (Jvm.Cond.instanceMethod ({ cls := "java/lang/StringBuilder", name := "length", desc := "()I" } : Jvm.MethodName)).before a0 Z = true := hw _ (List.mem_of_getElem? (i := 135) rfl)
theorem tw136 {Z : State} {a0 : Array Value} (hw : ∀ d ∈ tables_1, d.before a0 Z = true) : (Jvm.Cond.code ({ cls := "java/lang/StringBuilder", name := "length", desc := "()I" } : Jvm.MethodName) jdk_67_method_93_code (1 : Nat) (Option.some Jvm.ClassFile.FieldType.int)).before a0 Z = true := hw _ (List.mem_of_getElem? (i := 136) rfl)
theorem tw137 {Z : State} {a0 : Array Value} (hw : ∀ d ∈ tables_1, d.before a0 Z = true) : (Jvm.Cond.methodLink "java/lang/StringBuilder" (343 : Nat) ({ cls := "java/lang/AbstractStringBuilder", name := "length", desc := "()I" } : Jvm.MethodName)).before a0 Z = true := hw _ (List.mem_of_getElem? (i := 137) rfl)
theorem tw138 {Z : State} {a0 : Array Value} (hw : ∀ d ∈ tables_1, d.before a0 Z = true) : (Jvm.Cond.code ({ cls := "java/lang/AbstractStringBuilder", name := "length", desc := "()I" } : Jvm.MethodName) jdk_68_method_6_code (1 : Nat) (Option.some Jvm.ClassFile.FieldType.int)).before a0 Z = true := hw _ (List.mem_of_getElem? (i := 138) rfl)
theorem tw139 {Z : State} {a0 : Array Value} (hw : ∀ d ∈ tables_1, d.before a0 Z = true) : (Jvm.Cond.methodLink "java/lang/String" (1047 : Nat) ({ cls := "java/lang/AbstractStringBuilder", name := "isLatin1", desc := "()Z" } : Jvm.MethodName)).before a0 Z = true := hw _ (List.mem_of_getElem? (i := 139) rfl)
theorem tw140 {Z : State} {a0 : Array Value} (hw : ∀ d ∈ tables_1, d.before a0 Z = true) : (Jvm.Cond.declares ({ cls := "java/lang/AbstractStringBuilder", name := "isLatin1", desc := "()Z" } : Jvm.MethodName)).before a0 Z = true := hw _ (List.mem_of_getElem? (i := 140) rfl)
theorem tw141 {Z : State} {a0 : Array Value} (hw : ∀ d ∈ tables_1, d.before a0 Z = true) : (Jvm.Cond.instanceMethod ({ cls := "java/lang/AbstractStringBuilder", name := "isLatin1", desc := "()Z" } : Jvm.MethodName)).before a0 Z = true := hw _ (List.mem_of_getElem? (i := 141) rfl)
theorem tw142 {Z : State} {a0 : Array Value} (hw : ∀ d ∈ tables_1, d.before a0 Z = true) : (Jvm.Cond.selects "java/lang/StringBuilder" ({ cls := "java/lang/AbstractStringBuilder", name := "isLatin1", desc := "()Z" } : Jvm.MethodName) ({ cls := "java/lang/AbstractStringBuilder", name := "isLatin1", desc := "()Z" } : Jvm.MethodName)).before a0 Z = true := hw _ (List.mem_of_getElem? (i := 142) rfl)
theorem tw143 {Z : State} {a0 : Array Value} (hw : ∀ d ∈ tables_1, d.before a0 Z = true) : (Jvm.Cond.code ({ cls := "java/lang/AbstractStringBuilder", name := "isLatin1", desc := "()Z" } : Jvm.MethodName) jdk_68_method_68_code (1 : Nat) (Option.some Jvm.ClassFile.FieldType.boolean)).before a0 Z = true := hw _ (List.mem_of_getElem? (i := 143) rfl)
theorem tw144 {Z : State} {a0 : Array Value} (hw : ∀ d ∈ tables_1, d.before a0 Z = true) : (Jvm.Cond.methodLink "java/lang/String" (54 : Nat) ({ cls := "java/util/Arrays", name := "copyOfRange", desc := "([BII)[B" } : Jvm.MethodName)).before a0 Z = true := hw _ (List.mem_of_getElem? (i := 144) rfl)
theorem tw145 {Z : State} {a0 : Array Value} (hw : ∀ d ∈ tables_1, d.before a0 Z = true) : (Jvm.Cond.static ({ cls := "java/util/Arrays", name := "copyOfRange", desc := "([BII)[B" } : Jvm.MethodName)).before a0 Z = true := hw _ (List.mem_of_getElem? (i := 145) rfl)
theorem tw146 {Z : State} {a0 : Array Value} (hw : ∀ d ∈ tables_1, d.before a0 Z = true) : (Jvm.Cond.initialized "java/util/Arrays").before a0 Z = true := hw _ (List.mem_of_getElem? (i := 146) rfl)
theorem tw147 {Z : State} {a0 : Array Value} (hw : ∀ d ∈ tables_1, d.before a0 Z = true) : (Jvm.Cond.code ({ cls := "java/util/Arrays", name := "copyOfRange", desc := "([BII)[B" } : Jvm.MethodName) jdk_65_method_132_code (3 : Nat) (Option.some (Jvm.ClassFile.FieldType.array Jvm.ClassFile.FieldType.byte))).before a0 Z = true := hw _ (List.mem_of_getElem? (i := 147) rfl)
theorem tw148 {Z : State} {a0 : Array Value} (hw : ∀ d ∈ tables_1, d.before a0 Z = true) : (Jvm.Cond.methodLink "java/util/Arrays" (339 : Nat) ({ cls := "java/util/Arrays", name := "copyOfRangeByte", desc := "([BII)[B" } : Jvm.MethodName)).before a0 Z = true := hw _ (List.mem_of_getElem? (i := 148) rfl)
theorem tw149 {Z : State} {a0 : Array Value} (hw : ∀ d ∈ tables_1, d.before a0 Z = true) : (Jvm.Cond.static ({ cls := "java/util/Arrays", name := "copyOfRangeByte", desc := "([BII)[B" } : Jvm.MethodName)).before a0 Z = true := hw _ (List.mem_of_getElem? (i := 149) rfl)
theorem tw150 {Z : State} {a0 : Array Value} (hw : ∀ d ∈ tables_1, d.before a0 Z = true) : (Jvm.Cond.code ({ cls := "java/util/Arrays", name := "copyOfRangeByte", desc := "([BII)[B" } : Jvm.MethodName) jdk_65_method_133_code (5 : Nat) (Option.some (Jvm.ClassFile.FieldType.array Jvm.ClassFile.FieldType.byte))).before a0 Z = true := hw _ (List.mem_of_getElem? (i := 150) rfl)
theorem tw151 {Z : State} {a0 : Array Value} (hw : ∀ d ∈ tables_1, d.before a0 Z = true) : (Jvm.Cond.methodLink "java/util/Arrays" (343 : Nat) ({ cls := "java/util/Arrays", name := "checkLength", desc := "(II)V" } : Jvm.MethodName)).before a0 Z = true := hw _ (List.mem_of_getElem? (i := 151) rfl)
theorem tw152 {Z : State} {a0 : Array Value} (hw : ∀ d ∈ tables_1, d.before a0 Z = true) : (Jvm.Cond.static ({ cls := "java/util/Arrays", name := "checkLength", desc := "(II)V" } : Jvm.MethodName)).before a0 Z = true := hw _ (List.mem_of_getElem? (i := 152) rfl)
theorem tw153 {Z : State} {a0 : Array Value} (hw : ∀ d ∈ tables_1, d.before a0 Z = true) : (Jvm.Cond.code ({ cls := "java/util/Arrays", name := "checkLength", desc := "(II)V" } : Jvm.MethodName) jdk_65_method_131_code (2 : Nat) (Option.none : Option Jvm.ClassFile.FieldType)).before a0 Z = true := hw _ (List.mem_of_getElem? (i := 153) rfl)
theorem tw154 {Z : State} {a0 : Array Value} (hw : ∀ d ∈ tables_1, d.before a0 Z = true) : (Jvm.Cond.methodLink "java/util/Arrays" (304 : Nat) ({ cls := "java/lang/Math", name := "min", desc := "(II)I" } : Jvm.MethodName)).before a0 Z = true := hw _ (List.mem_of_getElem? (i := 154) rfl)
theorem tw155 {Z : State} {a0 : Array Value} (hw : ∀ d ∈ tables_1, d.before a0 Z = true) : (Jvm.Cond.static ({ cls := "java/lang/Math", name := "min", desc := "(II)I" } : Jvm.MethodName)).before a0 Z = true := hw _ (List.mem_of_getElem? (i := 155) rfl)
theorem tw156 {Z : State} {a0 : Array Value} (hw : ∀ d ∈ tables_1, d.before a0 Z = true) : (Jvm.Cond.initialized "java/lang/Math").before a0 Z = true := hw _ (List.mem_of_getElem? (i := 156) rfl)
theorem tw157 {Z : State} {a0 : Array Value} (hw : ∀ d ∈ tables_1, d.before a0 Z = true) : (Jvm.Cond.code ({ cls := "java/lang/Math", name := "min", desc := "(II)I" } : Jvm.MethodName) jdk_29_method_69_code (2 : Nat) (Option.some Jvm.ClassFile.FieldType.int)).before a0 Z = true := hw _ (List.mem_of_getElem? (i := 157) rfl)
theorem tw158 {Z : State} {a0 : Array Value} (hw : ∀ d ∈ tables_1, d.before a0 Z = true) : (Jvm.Cond.methodLink "java/util/Arrays" (150 : Nat) ({ cls := "java/lang/System", name := "arraycopy", desc := "(Ljava/lang/Object;ILjava/lang/Object;II)V" } : Jvm.MethodName)).before a0 Z = true := hw _ (List.mem_of_getElem? (i := 158) rfl)
theorem tw159 {Z : State} {a0 : Array Value} (hw : ∀ d ∈ tables_1, d.before a0 Z = true) : (Jvm.Cond.methodLink "com/example/grantgraph/grantgraph/model/SubjectSetTypeToStringPinLaw" (22 : Nat) ({ cls := "java/lang/String", name := "length", desc := "()I" } : Jvm.MethodName)).before a0 Z = true := hw _ (List.mem_of_getElem? (i := 159) rfl)
theorem tw160 {Z : State} {a0 : Array Value} (hw : ∀ d ∈ tables_1, d.before a0 Z = true) : (Jvm.Cond.methodLink "com/example/grantgraph/grantgraph/model/SubjectSetTypeToStringPinLaw" (28 : Nat) ({ cls := "com/example/grantgraph/grantgraph/model/SubjectSetTypeToStringPinLaw", name := "ok", desc := "(Ljava/lang/String;Ljava/lang/String;Ljava/lang/String;I)Z" } : Jvm.MethodName)).before a0 Z = true := hw _ (List.mem_of_getElem? (i := 160) rfl)
theorem tw161 {Z : State} {a0 : Array Value} (hw : ∀ d ∈ tables_1, d.before a0 Z = true) : (Jvm.Cond.static ({ cls := "com/example/grantgraph/grantgraph/model/SubjectSetTypeToStringPinLaw", name := "ok", desc := "(Ljava/lang/String;Ljava/lang/String;Ljava/lang/String;I)Z" } : Jvm.MethodName)).before a0 Z = true := hw _ (List.mem_of_getElem? (i := 161) rfl)
theorem tw162 {Z : State} {a0 : Array Value} (hw : ∀ d ∈ tables_1, d.before a0 Z = true) : (Jvm.Cond.code ({ cls := "com/example/grantgraph/grantgraph/model/SubjectSetTypeToStringPinLaw", name := "ok", desc := "(Ljava/lang/String;Ljava/lang/String;Ljava/lang/String;I)Z" } : Jvm.MethodName) method_4_code (5 : Nat) (Option.some Jvm.ClassFile.FieldType.boolean)).before a0 Z = true := hw _ (List.mem_of_getElem? (i := 162) rfl)
theorem tw163 {Z : State} {a0 : Array Value} (hw : ∀ d ∈ tables_1, d.before a0 Z = true) : (Jvm.Cond.methodLink "com/example/grantgraph/grantgraph/model/SubjectSetTypeToStringPinLaw" (35 : Nat) ({ cls := "java/lang/String", name := "charAt", desc := "(I)C" } : Jvm.MethodName)).before a0 Z = true := hw _ (List.mem_of_getElem? (i := 163) rfl)
theorem tw164 {Z : State} {a0 : Array Value} (hw : ∀ d ∈ tables_1, d.before a0 Z = true) : (Jvm.Cond.declares ({ cls := "java/lang/String", name := "charAt", desc := "(I)C" } : Jvm.MethodName)).before a0 Z = true := hw _ (List.mem_of_getElem? (i := 164) rfl)
theorem tw165 {Z : State} {a0 : Array Value} (hw : ∀ d ∈ tables_1, d.before a0 Z = true) : (Jvm.Cond.instanceMethod ({ cls := "java/lang/String", name := "charAt", desc := "(I)C" } : Jvm.MethodName)).before a0 Z = true := hw _ (List.mem_of_getElem? (i := 165) rfl)
theorem tw166 {Z : State} {a0 : Array Value} (hw : ∀ d ∈ tables_1, d.before a0 Z = true) : (Jvm.Cond.selects "java/lang/String" ({ cls := "java/lang/String", name := "charAt", desc := "(I)C" } : Jvm.MethodName) ({ cls := "java/lang/String", name := "charAt", desc := "(I)C" } : Jvm.MethodName)).before a0 Z = true := hw _ (List.mem_of_getElem? (i := 166) rfl)
theorem tw167 {Z : State} {a0 : Array Value} (hw : ∀ d ∈ tables_1, d.before a0 Z = true) : (Jvm.Cond.code ({ cls := "java/lang/String", name := "charAt", desc := "(I)C" } : Jvm.MethodName) jdk_42_method_56_code (2 : Nat) (Option.some Jvm.ClassFile.FieldType.char)).before a0 Z = true := hw _ (List.mem_of_getElem? (i := 167) rfl)
theorem tw168 {Z : State} {a0 : Array Value} (hw : ∀ d ∈ tables_1, d.before a0 Z = true) : (Jvm.Cond.methodLink "java/lang/String" (492 : Nat) ({ cls := "java/lang/String", name := "isLatin1", desc := "()Z" } : Jvm.MethodName)).before a0 Z = true := hw _ (List.mem_of_getElem? (i := 168) rfl)
theorem tw169 {Z : State} {a0 : Array Value} (hw : ∀ d ∈ tables_1, d.before a0 Z = true) : (Jvm.Cond.declares ({ cls := "java/lang/String", name := "isLatin1", desc := "()Z" } : Jvm.MethodName)).before a0 Z = true := hw _ (List.mem_of_getElem? (i := 169) rfl)
theorem tw170 {Z : State} {a0 : Array Value} (hw : ∀ d ∈ tables_1, d.before a0 Z = true) : (Jvm.Cond.instanceMethod ({ cls := "java/lang/String", name := "isLatin1", desc := "()Z" } : Jvm.MethodName)).before a0 Z = true := hw _ (List.mem_of_getElem? (i := 170) rfl)
theorem tw171 {Z : State} {a0 : Array Value} (hw : ∀ d ∈ tables_1, d.before a0 Z = true) : (Jvm.Cond.selects "java/lang/String" ({ cls := "java/lang/String", name := "isLatin1", desc := "()Z" } : Jvm.MethodName) ({ cls := "java/lang/String", name := "isLatin1", desc := "()Z" } : Jvm.MethodName)).before a0 Z = true := hw _ (List.mem_of_getElem? (i := 171) rfl)
theorem tw172 {Z : State} {a0 : Array Value} (hw : ∀ d ∈ tables_1, d.before a0 Z = true) : (Jvm.Cond.code ({ cls := "java/lang/String", name := "isLatin1", desc := "()Z" } : Jvm.MethodName) jdk_42_method_154_code (1 : Nat) (Option.some Jvm.ClassFile.FieldType.boolean)).before a0 Z = true := hw _ (List.mem_of_getElem? (i := 172) rfl)
theorem tw173 {Z : State} {a0 : Array Value} (hw : ∀ d ∈ tables_1, d.before a0 Z = true) : (Jvm.Cond.methodLink "java/lang/String" (495 : Nat) ({ cls := "java/lang/StringLatin1", name := "charAt", desc := "([BI)C" } : Jvm.MethodName)).before a0 Z = true := hw _ (List.mem_of_getElem? (i := 173) rfl)
theorem tw174 {Z : State} {a0 : Array Value} (hw : ∀ d ∈ tables_1, d.before a0 Z = true) : (Jvm.Cond.static ({ cls := "java/lang/StringLatin1", name := "charAt", desc := "([BI)C" } : Jvm.MethodName)).before a0 Z = true := hw _ (List.mem_of_getElem? (i := 174) rfl)
theorem tw175 {Z : State} {a0 : Array Value} (hw : ∀ d ∈ tables_1, d.before a0 Z = true) : (Jvm.Cond.initialized "java/lang/StringLatin1").before a0 Z = true := hw _ (List.mem_of_getElem? (i := 175) rfl)
theorem tw176 {Z : State} {a0 : Array Value} (hw : ∀ d ∈ tables_1, d.before a0 Z = true) : (Jvm.Cond.code ({ cls := "java/lang/StringLatin1", name := "charAt", desc := "([BI)C" } : Jvm.MethodName) jdk_43_method_2_code (2 : Nat) (Option.some Jvm.ClassFile.FieldType.char)).before a0 Z = true := hw _ (List.mem_of_getElem? (i := 176) rfl)
theorem tw177 {Z : State} {a0 : Array Value} (hw : ∀ d ∈ tables_1, d.before a0 Z = true) : (Jvm.Cond.methodLink "java/lang/StringLatin1" (9 : Nat) ({ cls := "java/lang/String", name := "checkIndex", desc := "(II)V" } : Jvm.MethodName)).before a0 Z = true := hw _ (List.mem_of_getElem? (i := 177) rfl)
theorem tw178 {Z : State} {a0 : Array Value} (hw : ∀ d ∈ tables_1, d.before a0 Z = true) : (Jvm.Cond.static ({ cls := "java/lang/String", name := "checkIndex", desc := "(II)V" } : Jvm.MethodName)).before a0 Z = true := hw _ (List.mem_of_getElem? (i := 178) rfl)
theorem tw179 {Z : State} {a0 : Array Value} (hw : ∀ d ∈ tables_1, d.before a0 Z = true) : (Jvm.Cond.code ({ cls := "java/lang/String", name := "checkIndex", desc := "(II)V" } : Jvm.MethodName) jdk_42_method_155_code (2 : Nat) (Option.none : Option Jvm.ClassFile.FieldType)).before a0 Z = true := hw _ (List.mem_of_getElem? (i := 179) rfl)
theorem tw180 {Z : State} {a0 : Array Value} (hw : ∀ d ∈ tables_1, d.before a0 Z = true) : (Jvm.Cond.fieldLink "java/lang/String" (1053 : Nat) "jdk/internal/util/Preconditions" "SIOOBE_FORMATTER" "Ljava/util/function/BiFunction;").before a0 Z = true := hw _ (List.mem_of_getElem? (i := 180) rfl)
theorem tw181 {Z : State} {a0 : Array Value} (hw : ∀ d ∈ tables_1, d.before a0 Z = true) : (Jvm.Cond.initialized "jdk/internal/util/Preconditions").before a0 Z = true := hw _ (List.mem_of_getElem? (i := 181) rfl)
theorem tw182 {Z : State} {a0 : Array Value} (hw : ∀ d ∈ tables_1, d.before a0 Z = true) : (Jvm.Cond.methodLink "java/lang/String" (1059 : Nat) ({ cls := "jdk/internal/util/Preconditions", name := "checkIndex", desc := "(IILjava/util/function/BiFunction;)I" } : Jvm.MethodName)).before a0 Z = true := hw _ (List.mem_of_getElem? (i := 182) rfl)
theorem tw183 {Z : State} {a0 : Array Value} (hw : ∀ d ∈ tables_1, d.before a0 Z = true) : (Jvm.Cond.static ({ cls := "jdk/internal/util/Preconditions", name := "checkIndex", desc := "(IILjava/util/function/BiFunction;)I" } : Jvm.MethodName)).before a0 Z = true := hw _ (List.mem_of_getElem? (i := 183) rfl)
theorem tw184 {Z : State} {a0 : Array Value} (hw : ∀ d ∈ tables_1, d.before a0 Z = true) : (Jvm.Cond.code ({ cls := "jdk/internal/util/Preconditions", name := "checkIndex", desc := "(IILjava/util/function/BiFunction;)I" } : Jvm.MethodName) jdk_41_method_11_code (3 : Nat) (Option.some Jvm.ClassFile.FieldType.int)).before a0 Z = true := hw _ (List.mem_of_getElem? (i := 184) rfl)
theorem tw185 {Z : State} {a0 : Array Value} (hw : ∀ d ∈ tables_1, d.before a0 Z = true) : (Jvm.Cond.methodLink "java/lang/String" (177 : Nat) ({ cls := "java/lang/StringUTF16", name := "compress", desc := "([CII)[B" } : Jvm.MethodName)).before a0 Z = true := hw _ (List.mem_of_getElem? (i := 185) rfl)
theorem tw186 {Z : State} {a0 : Array Value} (hw : ∀ d ∈ tables_1, d.before a0 Z = true) : (Jvm.Cond.static ({ cls := "java/lang/StringUTF16", name := "compress", desc := "([CII)[B" } : Jvm.MethodName)).before a0 Z = true := hw _ (List.mem_of_getElem? (i := 186) rfl)
theorem tw187 {Z : State} {a0 : Array Value} (hw : ∀ d ∈ tables_1, d.before a0 Z = true) : (Jvm.Cond.initialized "java/lang/StringUTF16").before a0 Z = true := hw _ (List.mem_of_getElem? (i := 187) rfl)
theorem tw188 {Z : State} {a0 : Array Value} (hw : ∀ d ∈ tables_1, d.before a0 Z = true) : (Jvm.Cond.code ({ cls := "java/lang/StringUTF16", name := "compress", desc := "([CII)[B" } : Jvm.MethodName) jdk_52_method_16_code (6 : Nat) (Option.some (Jvm.ClassFile.FieldType.array Jvm.ClassFile.FieldType.byte))).before a0 Z = true := hw _ (List.mem_of_getElem? (i := 188) rfl)
theorem tw189 {Z : State} {a0 : Array Value} (hw : ∀ d ∈ tables_1, d.before a0 Z = true) : (Jvm.Cond.methodLink "java/lang/StringUTF16" (115 : Nat) ({ cls := "java/lang/StringUTF16", name := "compress", desc := "([CI[BII)I" } : Jvm.MethodName)).before a0 Z = true := hw _ (List.mem_of_getElem? (i := 189) rfl)
theorem tw190 {Z : State} {a0 : Array Value} (hw : ∀ d ∈ tables_1, d.before a0 Z = true) : (Jvm.Cond.static ({ cls := "java/lang/StringUTF16", name := "compress", desc := "([CI[BII)I" } : Jvm.MethodName)).before a0 Z = true := hw _ (List.mem_of_getElem? (i := 190) rfl)
theorem tw191 {Z : State} {a0 : Array Value} (hw : ∀ d ∈ tables_1, d.before a0 Z = true) : (Jvm.Cond.code ({ cls := "java/lang/StringUTF16", name := "compress", desc := "([CI[BII)I" } : Jvm.MethodName) jdk_52_method_21_code (7 : Nat) (Option.some Jvm.ClassFile.FieldType.int)).before a0 Z = true := hw _ (List.mem_of_getElem? (i := 191) rfl)
theorem tw192 {Z : State} {a0 : Array Value} (hw : ∀ d ∈ tables_1, d.before a0 Z = true) : (Jvm.Cond.methodLink "java/lang/String" (47 : Nat) ({ cls := "java/lang/StringUTF16", name := "coderFromArrayLen", desc := "([BI)B" } : Jvm.MethodName)).before a0 Z = true := hw _ (List.mem_of_getElem? (i := 192) rfl)
theorem tw193 {Z : State} {a0 : Array Value} (hw : ∀ d ∈ tables_1, d.before a0 Z = true) : (Jvm.Cond.static ({ cls := "java/lang/StringUTF16", name := "coderFromArrayLen", desc := "([BI)B" } : Jvm.MethodName)).before a0 Z = true := hw _ (List.mem_of_getElem? (i := 193) rfl)
theorem tw194 {Z : State} {a0 : Array Value} (hw : ∀ d ∈ tables_1, d.before a0 Z = true) : (Jvm.Cond.code ({ cls := "java/lang/StringUTF16", name := "coderFromArrayLen", desc := "([BI)B" } : Jvm.MethodName) jdk_52_method_15_code (2 : Nat) (Option.some Jvm.ClassFile.FieldType.byte)).before a0 Z = true := hw _ (List.mem_of_getElem? (i := 194) rfl)
theorem pd_0 : parseMethodDescriptor "(IILjava/util/function/BiFunction;)I" = some ⟨[.int, .int, (.object "java/util/function/BiFunction")], some .int⟩ := by decide +kernel
theorem pd_1 : parseMethodDescriptor "([CIILjava/lang/Void;)V" = some ⟨[(.array .char), .int, .int, (.object "java/lang/Void")], none⟩ := by decide +kernel
theorem pd_2 : parseMethodDescriptor "([C)V" = some ⟨[(.array .char)], none⟩ := by decide +kernel
theorem pd_3 : parseMethodDescriptor "(ICC)Ljava/lang/String;" = some ⟨[.int, .char, .char], some (.object "java/lang/String")⟩ := by decide +kernel
theorem pd_4 : parseMethodDescriptor "()V" = some ⟨[], none⟩ := by decide +kernel
theorem pd_5 : parseMethodDescriptor "(Ljava/lang/String;Ljava/lang/String;)V" = some ⟨[(.object "java/lang/String"), (.object "java/lang/String")], none⟩ := by decide +kernel
theorem pd_6 : parseMethodDescriptor "(I)V" = some ⟨[.int], none⟩ := by decide +kernel
theorem pd_7 : parseMethodDescriptor "()B" = some ⟨[], some .byte⟩ := by decide +kernel
theorem pd_8 : parseMethodDescriptor "()I" = some ⟨[], some .int⟩ := by decide +kernel
theorem pd_9 : parseMethodDescriptor "(Ljava/lang/String;)V" = some ⟨[(.object "java/lang/String")], none⟩ := by decide +kernel
theorem pd_10 : parseMethodDescriptor "([BIB)V" = some ⟨[(.array .byte), .int, .byte], none⟩ := by decide +kernel
theorem pd_11 : parseMethodDescriptor "(ILjava/lang/String;)V" = some ⟨[.int, (.object "java/lang/String")], none⟩ := by decide +kernel
theorem pd_12 : parseMethodDescriptor "(Ljava/lang/String;)Ljava/lang/AbstractStringBuilder;" = some ⟨[(.object "java/lang/String")], some (.object "java/lang/AbstractStringBuilder")⟩ := by decide +kernel
theorem pd_13 : parseMethodDescriptor "(Ljava/lang/String;)Ljava/lang/StringBuilder;" = some ⟨[(.object "java/lang/String")], some (.object "java/lang/StringBuilder")⟩ := by decide +kernel
theorem pd_14 : parseMethodDescriptor "()[B" = some ⟨[], some (.array .byte)⟩ := by decide +kernel
theorem pd_15 : parseMethodDescriptor "()Z" = some ⟨[], some .boolean⟩ := by decide +kernel
theorem pd_16 : parseMethodDescriptor "(II)V" = some ⟨[.int, .int], none⟩ := by decide +kernel
theorem pd_17 : parseMethodDescriptor "(II)I" = some ⟨[.int, .int], some .int⟩ := by decide +kernel
theorem pd_18 : parseMethodDescriptor "([BII)[B" = some ⟨[(.array .byte), .int, .int], some (.array .byte)⟩ := by decide +kernel
theorem pd_19 : parseMethodDescriptor "(Ljava/lang/AbstractStringBuilder;Ljava/lang/Void;)V" = some ⟨[(.object "java/lang/AbstractStringBuilder"), (.object "java/lang/Void")], none⟩ := by decide +kernel
theorem pd_20 : parseMethodDescriptor "(Ljava/lang/StringBuilder;)V" = some ⟨[(.object "java/lang/StringBuilder")], none⟩ := by decide +kernel
theorem pd_21 : parseMethodDescriptor "()Ljava/lang/String;" = some ⟨[], some (.object "java/lang/String")⟩ := by decide +kernel
theorem pd_22 : parseMethodDescriptor "([BI)C" = some ⟨[(.array .byte), .int], some .char⟩ := by decide +kernel
theorem pd_23 : parseMethodDescriptor "(I)C" = some ⟨[.int], some .char⟩ := by decide +kernel
theorem pd_24 : parseMethodDescriptor "(Ljava/lang/String;Ljava/lang/String;Ljava/lang/String;I)Z" = some ⟨[(.object "java/lang/String"), (.object "java/lang/String"), (.object "java/lang/String"), .int], some .boolean⟩ := by decide +kernel
theorem pd_25 : parseMethodDescriptor "([CI[BII)I" = some ⟨[(.array .char), .int, (.array .byte), .int, .int], some .int⟩ := by decide +kernel
theorem pd_26 : parseMethodDescriptor "([CII)[B" = some ⟨[(.array .char), .int, .int], some (.array .byte)⟩ := by decide +kernel
theorem pd_27 : parseMethodDescriptor "([BI)B" = some ⟨[(.array .byte), .int], some .byte⟩ := by decide +kernel
theorem own_wS {Z : State} {a0 : Array Value} (hw : ∀ d ∈ tables_1, d.before a0 Z = true) : ∀ a ∈ Bundle.stringAtoms, a.before a0 Z = true := fun d hd => by
  simp only [Bundle.stringAtoms, Bundle.sN, List.mem_cons, List.not_mem_nil, or_false] at hd
  rcases hd with rfl | rfl | rfl | rfl | rfl | rfl | rfl
  · exact hw _ (List.mem_of_getElem? (i := 6) rfl)
  · exact hw _ (List.mem_of_getElem? (i := 5) rfl)
  · exact hw _ (List.mem_of_getElem? (i := 19) rfl)
  · exact hw _ (List.mem_of_getElem? (i := 20) rfl)
  · exact hw _ (List.mem_of_getElem? (i := 21) rfl)
  · exact hw _ (List.mem_of_getElem? (i := 22) rfl)
  · exact hw _ (List.mem_of_getElem? (i := 23) rfl)
theorem own_EW {Z : State} {a0 : Array Value} (hw : ∀ d ∈ tables_1, d.before a0 Z = true) : EW Z a0 consts_1 := (EW.cons (hw _ (List.mem_of_getElem? (i := 113) rfl)) (by decide) (EW.cons (hw _ (List.mem_of_getElem? (i := 18) rfl)) (by decide) EW.nil))
theorem own_Nots {Z : State} {a0 : Array Value} (hw : ∀ d ∈ tables_1, d.before a0 Z = true) (n : Nat) (hn : ∀ k ∈ [(1 : Nat), (0 : Nat)], k ≠ n) : own_Not Z a0 consts_1 n := (own_Not.cons (hw _ (List.mem_of_getElem? (i := 113) rfl)) (by decide) (hn 1 (List.mem_of_getElem? (i := 0) rfl)) (own_Not.cons (hw _ (List.mem_of_getElem? (i := 18) rfl)) (by decide) (hn 0 (List.mem_of_getElem? (i := 1) rfl)) own_Not.nil))
theorem pn_0 : plainName "jdk/internal/util/Preconditions" = true := by first | (simp [plainName, overriddenIn]; done) | decide +kernel
theorem pn_1 : plainName "java/lang/String" = true := by first | (simp [plainName, overriddenIn]; done) | decide +kernel
theorem pn_2 : plainName "com/example/grantgraph/grantgraph/model/SubjectSetTypeToStringPinLaw" = true := by first | (simp [plainName, overriddenIn]; done) | decide +kernel
theorem pn_3 : plainName "java/lang/Record" = true := by first | (simp [plainName, overriddenIn]; done) | decide +kernel
theorem pn_4 : plainName "com/example/grantgraph/grantgraph/model/SubjectSetType" = true := by first | (simp [plainName, overriddenIn]; done) | decide +kernel
theorem pn_5 : plainName "java/lang/AbstractStringBuilder" = true := by first | (simp [plainName, overriddenIn]; done) | decide +kernel
theorem pn_6 : plainName "java/lang/StringBuilder" = true := by first | (simp [plainName, overriddenIn]; done) | decide +kernel
theorem pn_7 : plainName "java/util/Arrays" = true := by first | (simp [plainName, overriddenIn]; done) | decide +kernel
theorem pn_8 : plainName "java/lang/StringLatin1" = true := by first | (simp [plainName, overriddenIn]; done) | decide +kernel
theorem pn_9 : plainName "java/lang/StringUTF16" = true := by first | (simp [plainName, overriddenIn]; done) | decide +kernel
abbrev xs0 : String := "com/example/grantgraph/grantgraph/model/SubjectSetTypeToStringPinLaw"
abbrev xs1 : String := "(Ljava/lang/String;Ljava/lang/String;Ljava/lang/String;I)Z"
abbrev xs2 : String := "com/example/grantgraph/grantgraph/model/SubjectSetType"
abbrev xs3 : String := "(Ljava/lang/String;)Ljava/lang/AbstractStringBuilder;"
abbrev xs4 : String := "(Ljava/lang/AbstractStringBuilder;Ljava/lang/Void;)V"
abbrev xs5 : String := "(Ljava/lang/String;)Ljava/lang/StringBuilder;"
abbrev xs6 : String := "(Ljava/lang/String;Ljava/lang/String;)V"
abbrev xs7 : String := "(IILjava/util/function/BiFunction;)I"
abbrev xs8 : String := "jdk/internal/util/Preconditions"
abbrev xs9 : String := "Ljava/util/function/BiFunction;"
abbrev xs10 : String := "java/lang/AbstractStringBuilder"
abbrev xs11 : String := "(Ljava/lang/StringBuilder;)V"
abbrev xs12 : String := "([CIILjava/lang/Void;)V"
abbrev xs13 : String := "(ICC)Ljava/lang/String;"
abbrev xs14 : String := "java/lang/StringBuilder"
abbrev xs15 : String := "ensureCapacityInternal"
abbrev xs16 : String := "(ILjava/lang/String;)V"
abbrev xs17 : String := "java/lang/StringLatin1"
abbrev xs18 : String := "(Ljava/lang/String;)V"
abbrev xs19 : String := "java/lang/StringUTF16"
abbrev xs20 : String := "()Ljava/lang/String;"
abbrev xs21 : String := "Ljava/lang/String;"
abbrev xs22 : String := "inflateIfNeededFor"
abbrev xs23 : String := "coderFromArrayLen"
abbrev xs24 : String := "SIOOBE_FORMATTER"
abbrev xs25 : String := "java/lang/String"
abbrev xs26 : String := "java/lang/Record"
abbrev xs27 : String := "java/util/Arrays"
abbrev xs28 : String := "COMPACT_STRINGS"
abbrev xs29 : String := "copyOfRangeByte"
abbrev xs30 : String := "java/lang/Math"
abbrev xm0 : MethodName := (⟨xs27, "copyOfRange", "([BII)[B"⟩ : MethodName)
abbrev xm1 : MethodName := (⟨xs19, "compress", "([CI[BII)I"⟩ : MethodName)
abbrev xm2 : MethodName := (⟨xs27, "checkLength", "(II)V"⟩ : MethodName)
abbrev xm3 : MethodName := (⟨xs19, "compress", "([CII)[B"⟩ : MethodName)
abbrev xm4 : MethodName := (⟨xs25, "checkIndex", "(II)V"⟩ : MethodName)
abbrev xm5 : MethodName := (⟨xs25, "getBytes", "([BIB)V"⟩ : MethodName)
abbrev xm6 : MethodName := (⟨xs10, "putStringAt", xs16⟩ : MethodName)
abbrev xm7 : MethodName := (⟨xs10, "getValue", "()[B"⟩ : MethodName)
abbrev xm8 : MethodName := (⟨xs17, "charAt", "([BI)C"⟩ : MethodName)
abbrev xm9 : MethodName := (⟨xs25, "<init>", "([C)V"⟩ : MethodName)
abbrev xm10 : MethodName := (⟨xs10, "isLatin1", "()Z"⟩ : MethodName)
abbrev xm11 : MethodName := (⟨xs25, "isLatin1", "()Z"⟩ : MethodName)
abbrev xm12 : MethodName := (⟨xs8, "checkIndex", xs7⟩ : MethodName)
abbrev xm13 : MethodName := (⟨xs10, "<init>", "(I)V"⟩ : MethodName)
abbrev xm14 : MethodName := (⟨xs27, xs29, "([BII)[B"⟩ : MethodName)
abbrev xm15 : MethodName := (⟨xs14, "toString", xs20⟩ : MethodName)
abbrev xm16 : MethodName := (⟨xs25, "charAt", "(I)C"⟩ : MethodName)
abbrev xm17 : MethodName := (⟨xs26, "<init>", "()V"⟩ : MethodName)
abbrev xm18 : MethodName := (⟨xs14, "<init>", "()V"⟩ : MethodName)
abbrev xm19 : MethodName := (⟨xs25, "length", "()I"⟩ : MethodName)
abbrev xm20 : MethodName := (⟨xs10, "length", "()I"⟩ : MethodName)
abbrev xm21 : MethodName := (⟨xs14, "length", "()I"⟩ : MethodName)
abbrev xm22 : MethodName := (⟨xs2, "toString", xs20⟩ : MethodName)
abbrev xm23 : MethodName := (⟨xs25, "<init>", xs12⟩ : MethodName)
abbrev xm24 : MethodName := (⟨xs25, "coder", "()B"⟩ : MethodName)
abbrev xm25 : MethodName := (⟨xs30, "min", "(II)I"⟩ : MethodName)
abbrev xm26 : MethodName := (⟨xs25, "<init>", xs11⟩ : MethodName)
abbrev xm27 : MethodName := (⟨xs19, xs23, "([BI)B"⟩ : MethodName)
abbrev xm28 : MethodName := (⟨xs10, "append", xs3⟩ : MethodName)
abbrev xm29 : MethodName := (⟨xs14, "append", xs5⟩ : MethodName)
abbrev xm30 : MethodName := (⟨xs25, "<init>", xs4⟩ : MethodName)
abbrev xm31 : MethodName := (⟨xs2, "<init>", xs6⟩ : MethodName)
abbrev xm32 : MethodName := (⟨xs10, xs15, "(I)V"⟩ : MethodName)
abbrev xm33 : MethodName := (⟨xs10, xs22, xs18⟩ : MethodName)
abbrev xm34 : MethodName := (⟨xs0, "mk", xs13⟩ : MethodName)
abbrev xm35 : MethodName := (⟨xs0, "ok", xs1⟩ : MethodName)
abbrev xr0 : Room := ({ frames := 3, cells := 6, slots := 12, locals := 43 } : Room)
abbrev xr1 : Room := ({ frames := 1, cells := 1, slots := 16, locals := 12 } : Room)
abbrev xr2 : Room := ({ frames := 2, cells := 1, slots := 16, locals := 25 } : Room)
abbrev xr3 : Room := ({ frames := 1, cells := 1, slots := 16, locals := 18 } : Room)
abbrev xr4 : Room := ({ frames := 2, cells := 1, slots := 16, locals := 34 } : Room)
abbrev xr5 : Room := ({ frames := 3, cells := 1, slots := 16, locals := 49 } : Room)
abbrev xr6 : Room := ({ frames := 4, cells := 1, slots := 16, locals := 65 } : Room)
abbrev xr7 : Room := ({ frames := 5, cells := 2, slots := 20, locals := 79 } : Room)
abbrev xr8 : Room := ({ frames := 6, cells := 6, slots := 48, locals := 91 } : Room)
abbrev xr9 : Room := ({ frames := 1, cells := 0, slots := 0, locals := 14 } : Room)
abbrev xr10 : Room := ({ frames := 1, cells := 4, slots := 8, locals := 12 } : Room)
abbrev xr11 : Room := ({ frames := 2, cells := 4, slots := 8, locals := 29 } : Room)
abbrev xr12 : Room := ({ frames := 1, cells := 0, slots := 0, locals := 12 } : Room)
abbrev xr13 : Room := ({ frames := 2, cells := 0, slots := 0, locals := 24 } : Room)
abbrev xr14 : Room := ({ frames := 1, cells := 0, slots := 0, locals := 13 } : Room)
abbrev xr15 : Room := ({ frames := 1, cells := 0, slots := 0, locals := 18 } : Room)
abbrev xr16 : Room := ({ frames := 2, cells := 0, slots := 0, locals := 33 } : Room)
abbrev xr17 : Room := ({ frames := 3, cells := 0, slots := 0, locals := 47 } : Room)
abbrev xr18 : Room := ({ frames := 4, cells := 0, slots := 0, locals := 61 } : Room)
abbrev xr19 : Room := ({ frames := 2, cells := 0, slots := 0, locals := 27 } : Room)
abbrev xr20 : Room := ({ frames := 3, cells := 0, slots := 0, locals := 40 } : Room)
abbrev xr21 : Room := ({ frames := 4, cells := 0, slots := 0, locals := 53 } : Room)
abbrev xr22 : Room := ({ frames := 2, cells := 0, slots := 0, locals := 26 } : Room)
abbrev xr23 : Room := ({ frames := 1, cells := 1, slots := 1, locals := 18 } : Room)
abbrev xr24 : Room := ({ frames := 2, cells := 1, slots := 1, locals := 35 } : Room)
abbrev xr25 : Room := ({ frames := 3, cells := 1, slots := 1, locals := 52 } : Room)
abbrev xr26 : Room := ({ frames := 4, cells := 3, slots := 6, locals := 66 } : Room)
abbrev xr27 : Room := ({ frames := 1, cells := 1, slots := 2, locals := 18 } : Room)
abbrev xr28 : Room := ({ frames := 2, cells := 1, slots := 2, locals := 35 } : Room)
abbrev xr29 : Room := ({ frames := 3, cells := 1, slots := 2, locals := 52 } : Room)
abbrev xr30 : Room := ({ frames := 4, cells := 3, slots := 8, locals := 66 } : Room)
abbrev xr31 : Room := ({ frames := 0, cells := 0, slots := 0, locals := 0 } : Room)
theorem ef_pchk_n (m : MethodId) (x0 : Int32) (x1 : Int32) : entryFrame m #[(.int x0), (.int x1), .null] 3 = mkF m 0 #[.val (.int x0), .val (.int x1), .val .null] [] := by first | (simp [entryFrame, mkF, argsToLocals, Value.category]; done) | rfl
def Q_pchk_n (Z : State) (ix : Int32) (ln : Int32) (h0 : Heap) (n0 : Nat) (v : Option Value) (h : Heap) (L : List Loc) : Prop := v = some (.int ix) ∧ Fr n0 L ∧ h = h0
set_option maxRecDepth 65536 in
set_option maxHeartbeats 40000000 in
theorem rm_pchk_n (l : Launch) (Z : State) (a0 : Array Value) (hw : ∀ d ∈ tables_1, d.before a0 Z = true) (ws : List Jvm.Cond) (ix : Int32) (ln : Int32) (h0 : Heap) (n0 : Nat) (Z0 : n0 ≤ h0.size) (h1 : ¬ ix < (0 : Int32)) (h2 : ix < ln) :
    MetFree l xm12 (head1 (Jvm.Cond.code xm12 jdk_41_method_11_code 3 (some .int) :: ws) xr31) (fun a U => a = #[(.int ix), (.int ln), .null] ∧ Z.Warmed39 U.vm ∧ U.heap = h0) (fun _ _ _ _ _ => True) (fun _ U o U' => ∃ v L, o = .returned v ∧ Q_pchk_n Z ix ln h0 n0 v U'.heap L ∧ FrameEnd U o U' L xr31.cells xr31.slots) := by
  refine MetFree.of_bodySF (plainFor_of_name pn_0) hisR ?_
  intro p e s m args below meth c s₁ Bd hml0 hP hK
  obtain ⟨rfl, hZ, hh⟩ := hP
  have hx := Bd.exec
  have hby := Bd.bytes
  have hlk : meth.locks = false := BodyLoose.notSynchronized Bd
  have hml : c.maxLocals = 3 := hml0
  have hown : s.vm.findClass xs8 = some m.cls := findClass_of_methodNamed Bd.named
  have hnm := (name_of_methodNamed Bd.named Bd.method).1
  have X0 : Stand p l e xr31 s m #[(.int ix), (.int ln), .null] below meth c s₁ [] 0 0 := Stand.of_body Bd
  have e0 : s₁.heap = h0 := by rw [← hh, Bd.state]; rfl
  have N0 := Fr.nil n0
  show Go p e below s (Q_pchk_n Z ix ln h0 n0) xr31.cells xr31.slots s₁ (entryFrame m #[(.int ix), (.int ln), .null] 3)
  refine Go.cast (ef_pchk_n m ix ln) ?_
  show Go p e below s _ _ _ s₁ (mkF m 0 #[.val (.int ix), .val (.int ln), .val .null] [])
  refine Go.step (fun _ k => XS.iloadN X0.here hx rfl (hb hby d0_0) rfl (XS.ifNo X0.here hx rfl (hb hby d0_1) rfl ((if0 _ _).trans (flt h1).1) (XS.iloadN X0.here hx rfl (hb hby d0_4) rfl (XS.iloadN X0.here hx rfl (hb hby d0_5) rfl (XS.icmpYes X0.here hx rfl (pc0 := 6) (pc' := 16) rfl (hb hby d0_6) rfl (tlt h2).1 (by decide) (by decide) (XS.iloadN X0.here hx rfl (hb hby d0_16) rfl k)))))) ?_
  show Go p e below s _ _ _ s₁ (mkF m 17 #[.val (.int ix), .val (.int ln), .val .null] [(.int ix)])
  exact Go.retI X0 hx hlk Bd.returns (hb hby d0_17) e0 ⟨rfl, N0, rfl⟩ (by decide) (by decide)

theorem ef_pchk_r (m : MethodId) (x0 : Int32) (x1 : Int32) (x2 : Addr) : entryFrame m #[(.int x0), (.int x1), (.ref x2)] 3 = mkF m 0 #[.val (.int x0), .val (.int x1), .val (.ref x2)] [] := by first | (simp [entryFrame, mkF, argsToLocals, Value.category]; done) | rfl
def Q_pchk_r (Z : State) (ix : Int32) (ln : Int32) (fa : Addr) (h0 : Heap) (n0 : Nat) (v : Option Value) (h : Heap) (L : List Loc) : Prop := v = some (.int ix) ∧ Fr n0 L ∧ h = h0
set_option maxRecDepth 65536 in
set_option maxHeartbeats 40000000 in
theorem rm_pchk_r (l : Launch) (Z : State) (a0 : Array Value) (hw : ∀ d ∈ tables_1, d.before a0 Z = true) (ws : List Jvm.Cond) (ix : Int32) (ln : Int32) (fa : Addr) (h0 : Heap) (n0 : Nat) (Z0 : n0 ≤ h0.size) (h1 : ¬ ix < (0 : Int32)) (h2 : ix < ln) :
    MetFree l xm12 (head1 (Jvm.Cond.code xm12 jdk_41_method_11_code 3 (some .int) :: ws) xr31) (fun a U => a = #[(.int ix), (.int ln), (.ref fa)] ∧ Z.Warmed39 U.vm ∧ U.heap = h0) (fun _ _ _ _ _ => True) (fun _ U o U' => ∃ v L, o = .returned v ∧ Q_pchk_r Z ix ln fa h0 n0 v U'.heap L ∧ FrameEnd U o U' L xr31.cells xr31.slots) := by
  refine MetFree.of_bodySF (plainFor_of_name pn_0) hisR ?_
  intro p e s m args below meth c s₁ Bd hml0 hP hK
  obtain ⟨rfl, hZ, hh⟩ := hP
  have hx := Bd.exec
  have hby := Bd.bytes
  have hlk : meth.locks = false := BodyLoose.notSynchronized Bd
  have hml : c.maxLocals = 3 := hml0
  have hown : s.vm.findClass xs8 = some m.cls := findClass_of_methodNamed Bd.named
  have hnm := (name_of_methodNamed Bd.named Bd.method).1
  have X0 : Stand p l e xr31 s m #[(.int ix), (.int ln), (.ref fa)] below meth c s₁ [] 0 0 := Stand.of_body Bd
  have e0 : s₁.heap = h0 := by rw [← hh, Bd.state]; rfl
  have N0 := Fr.nil n0
  show Go p e below s (Q_pchk_r Z ix ln fa h0 n0) xr31.cells xr31.slots s₁ (entryFrame m #[(.int ix), (.int ln), (.ref fa)] 3)
  refine Go.cast (ef_pchk_r m ix ln fa) ?_
  show Go p e below s _ _ _ s₁ (mkF m 0 #[.val (.int ix), .val (.int ln), .val (.ref fa)] [])
  refine Go.step (fun _ k => XS.iloadN X0.here hx rfl (hb hby d0_0) rfl (XS.ifNo X0.here hx rfl (hb hby d0_1) rfl ((if0 _ _).trans (flt h1).1) (XS.iloadN X0.here hx rfl (hb hby d0_4) rfl (XS.iloadN X0.here hx rfl (hb hby d0_5) rfl (XS.icmpYes X0.here hx rfl (pc0 := 6) (pc' := 16) rfl (hb hby d0_6) rfl (tlt h2).1 (by decide) (by decide) (XS.iloadN X0.here hx rfl (hb hby d0_16) rfl k)))))) ?_
  show Go p e below s _ _ _ s₁ (mkF m 17 #[.val (.int ix), .val (.int ln), .val (.ref fa)] [(.int ix)])
  exact Go.retI X0 hx hlk Bd.returns (hb hby d0_17) e0 ⟨rfl, N0, rfl⟩ (by decide) (by decide)

theorem ef_schk (m : MethodId) (x0 : Int32) (x1 : Int32) : entryFrame m #[(.int x0), (.int x1)] 2 = mkF m 0 #[.val (.int x0), .val (.int x1)] [] := by first | (simp [entryFrame, mkF, argsToLocals, Value.category]; done) | rfl
def Q_schk (Z : State) (ix : Int32) (ln : Int32) (fv : Value) (h0 : Heap) (n0 : Nat) (v : Option Value) (h : Heap) (L : List Loc) : Prop := v = none ∧ Fr n0 L ∧ h = h0
set_option maxRecDepth 65536 in
set_option maxHeartbeats 40000000 in
theorem rm_schk (l : Launch) (Z : State) (a0 : Array Value) (hw : ∀ d ∈ tables_1, d.before a0 Z = true) (ws : List Jvm.Cond) (ix : Int32) (ln : Int32) (fv : Value) (h0 : Heap) (n0 : Nat) (Z0 : n0 ≤ h0.size) (O0 : Old Z n0 h0) (Z_S_SIOOBE_FORMATTER : Sta Z Z.heap xs8 xs24 xs9 fv) (hfv : fv.isRef = true) (h1 : ¬ ix < (0 : Int32)) (h2 : ix < ln) :
    MetFree l xm4 (head1 (Jvm.Cond.code xm4 jdk_42_method_155_code 2 none :: ws) xr9) (fun a U => a = #[(.int ix), (.int ln)] ∧ Z.Warmed39 U.vm ∧ U.heap = h0) (fun _ _ _ _ _ => True) (fun _ U o U' => ∃ v L, o = .returned v ∧ Q_schk Z ix ln fv h0 n0 v U'.heap L ∧ FrameEnd U o U' L xr9.cells xr9.slots) := by
  refine MetFree.of_bodySF (plainFor_of_name pn_1) hisR ?_
  intro p e s m args below meth c s₁ Bd hml0 hP hK
  obtain ⟨rfl, hZ, hh⟩ := hP
  have hx := Bd.exec
  have hby := Bd.bytes
  have hlk : meth.locks = false := BodyLoose.notSynchronized Bd
  have hml : c.maxLocals = 2 := hml0
  have hown : s.vm.findClass xs25 = some m.cls := findClass_of_methodNamed Bd.named
  have hnm := (name_of_methodNamed Bd.named Bd.method).1
  have X0 : Stand p l e xr9 s m #[(.int ix), (.int ln)] below meth c s₁ [] 0 0 := Stand.of_body Bd
  have e0 : s₁.heap = h0 := by rw [← hh, Bd.state]; rfl
  have N0 := Fr.nil n0
  show Go p e below s (Q_schk Z ix ln fv h0 n0) xr9.cells xr9.slots s₁ (entryFrame m #[(.int ix), (.int ln)] 2)
  refine Go.cast (ef_schk m ix ln) ?_
  show Go p e below s _ _ _ s₁ (mkF m 0 #[.val (.int ix), .val (.int ln)] [])
  refine Go.step (fun _ k => XS.iloadN X0.here hx rfl (hb hby d1_0) rfl (XS.iloadN X0.here hx rfl (hb hby d1_1) rfl k)) ?_
  show Go p e below s _ _ _ s₁ (mkF m 2 #[.val (.int ix), .val (.int ln)] [(.int ln), (.int ix)])
  obtain ⟨T1, X1, e1, st1⟩ := getS2 X0 hx hZ hown (host := "") (Or.inl (tw180 hw)) Via.refl e0 (Z_S_SIOOBE_FORMATTER.ext O0.2) (g := (mkF m 2 #[.val (.int ix), .val (.int ln)] [(.int ln), (.int ix)])) rfl (hb hby d1_2)
  refine Go.step (fun _ k => st1 _ k) ?_
  show Go p e below s _ _ _ T1 (mkF m 5 #[.val (.int ix), .val (.int ln)] [fv, (.int ln), (.int ix)])
  rcases ref_cases hfv with rfl | ⟨fa, rfl⟩
  · show Go p e below s _ _ _ T1 (mkF m 5 #[.val (.int ix), .val (.int ln)] [.null, (.int ln), (.int ix)])
    obtain ⟨_, _, ⟨T2, L2, k2, n2⟩, -, X2, ⟨Lc2, hQ2, l2, y2, z2⟩, st2⟩ := Jvm.LawKit.callS X1 hx (y := xm12) hown (mvT hZ (tw182 hw)) (mvT hZ (tw183 hw)) (mvT hZ (tw181 hw)) (mvT hZ (tw184 hw)) (by decide) (backOf (W := 0) (rm_pchk_n l Z a0 hw [] ix ln h0 n0 Z0 h1 h2) hZ (tw184 hw) (tw181 hw) (by decide) (by decide)) (g := (mkF m 5 #[.val (.int ix), .val (.int ln)] [.null, (.int ln), (.int ix)])) rfl (by rw [hml]; rfl) (argsL := [(.int ix), (.int ln), .null]) (rest := []) (lenOf pd_0 rfl) rfl (by show 2 * 0 + _ ≤ _; exact Nat.le_of_eq rfl) (hb hby d1_5) (fun _ _ => ⟨rfl, e1, (by decide : 0 + 0 ≤ _), (by decide : 0 + 0 ≤ _)⟩)
    dsimp only [Pt.U, Pt.locs, Pt.cells, Pt.slots] at X2 l2 y2 z2 st2 hQ2
    subst l2 y2 z2
    obtain ⟨rfl, N2q, eq2⟩ := hQ2
    have N3 := Fr.app N0 N2q
    refine Go.step (fun _ k => st2 _ (XS.pop X2.here hx rfl (hb hby d1_8) rfl rfl k)) ?_
    show Go p e below s _ _ _ T2 (mkF m 9 #[.val (.int ix), .val (.int ln)] [])
    exact Go.retV X2 hx hlk Bd.returns (hb hby d1_9) eq2 ⟨rfl, N3, rfl⟩ (by decide) (by decide)
  · show Go p e below s _ _ _ T1 (mkF m 5 #[.val (.int ix), .val (.int ln)] [(.ref fa), (.int ln), (.int ix)])
    obtain ⟨_, _, ⟨T4, L4, k4, n4⟩, -, X4, ⟨Lc4, hQ4, l4, y4, z4⟩, st4⟩ := Jvm.LawKit.callS X1 hx (y := xm12) hown (mvT hZ (tw182 hw)) (mvT hZ (tw183 hw)) (mvT hZ (tw181 hw)) (mvT hZ (tw184 hw)) (by decide) (backOf (W := 0) (rm_pchk_r l Z a0 hw [] ix ln fa h0 n0 Z0 h1 h2) hZ (tw184 hw) (tw181 hw) (by decide) (by decide)) (g := (mkF m 5 #[.val (.int ix), .val (.int ln)] [(.ref fa), (.int ln), (.int ix)])) rfl (by rw [hml]; rfl) (argsL := [(.int ix), (.int ln), (.ref fa)]) (rest := []) (lenOf pd_0 rfl) rfl (by show 2 * 0 + _ ≤ _; exact Nat.le_of_eq rfl) (hb hby d1_5) (fun _ _ => ⟨rfl, e1, (by decide : 0 + 0 ≤ _), (by decide : 0 + 0 ≤ _)⟩)
    dsimp only [Pt.U, Pt.locs, Pt.cells, Pt.slots] at X4 l4 y4 z4 st4 hQ4
    subst l4 y4 z4
    obtain ⟨rfl, N4q, eq4⟩ := hQ4
    have N5 := Fr.app N0 N4q
    refine Go.step (fun _ k => st4 _ (XS.pop X4.here hx rfl (hb hby d1_8) rfl rfl k)) ?_
    show Go p e below s _ _ _ T4 (mkF m 9 #[.val (.int ix), .val (.int ln)] [])
    exact Go.retV X4 hx hlk Bd.returns (hb hby d1_9) eq4 ⟨rfl, N5, rfl⟩ (by decide) (by decide)

theorem ef_String_new_1 (m : MethodId) (x0 : Addr) (x1 : Addr) (x2 : Int32) (x3 : Int32) : entryFrame m #[(.ref x0), (.ref x1), (.int x2), (.int x3), .null] 6 = mkF m 0 #[.val (.ref x0), .val (.ref x1), .val (.int x2), .val (.int x3), .val .null, .unset] [] := by first | (simp [entryFrame, mkF, argsToLocals, Value.category]; done) | rfl
def Q_String_new_1 (Z : State) (b6 : Addr) (b9 : Addr) (h0 : Heap) (n0 : Nat) (v : Option Value) (h : Heap) (L : List Loc) : Prop := ∃ (b13 : Addr) (kb13 : ClassId), v = none ∧ Fr n0 L ∧ Keep h0 h [b6] ∧ Fld Z h b6 xs25 "value" "[B" (.ref b13) ∧ Fld Z h b6 xs25 "coder" "B" (.int (0 : Int32)) ∧ Arv Z h b13 kb13 .byte (0 : Int32) [] (.int (0 : Int32))
set_option maxRecDepth 65536 in
set_option maxHeartbeats 40000000 in
theorem rm_String_new_1 (l : Launch) (Z : State) (a0 : Array Value) (hw : ∀ d ∈ tables_1, d.before a0 Z = true) (ws : List Jvm.Cond) (b6 : Addr) (b9 : Addr) (h0 : Heap) (n0 : Nat) (Z0 : n0 ≤ h0.size) (E_b6 : Exa Z h0 b6 xs25) (F_value_b6 : Fld Z h0 b6 xs25 "value" "[B" .null) (g_b6 : n0 ≤ b6) (F_coder_b6 : Fld Z h0 b6 xs25 "coder" "B" (.int (0 : Int32))) :
    MetFree l xm23 (head1 (Jvm.Cond.code xm23 jdk_42_method_149_code 6 none :: ws) xr10) (fun a U => a = #[(.ref b6), (.ref b9), (.int (0 : Int32)), (.int (0 : Int32)), .null] ∧ Z.Warmed39 U.vm ∧ U.heap = h0 ∧ CHv Z consts_1 U.vm h0) (fun _ _ _ _ _ => True) (fun _ U o U' => ∃ v L, o = .returned v ∧ Q_String_new_1 Z b6 b9 h0 n0 v U'.heap L ∧ CHr Z consts_1 U.vm U.heap U'.vm U'.heap ∧ ReturnedEndW U o U' L xr10.cells xr10.slots) := by
  refine MetFree.of_bodySF (plainFor_of_name pn_1) hisR ?_
  intro p e s m args below meth c s₁ Bd hml0 hP hK
  obtain ⟨rfl, hZ, hh, hCH⟩ := hP
  have hx := Bd.exec
  have hby := Bd.bytes
  have hlk : meth.locks = false := BodyLoose.notSynchronized Bd
  have hml : c.maxLocals = 6 := hml0
  have hown : s.vm.findClass xs25 = some m.cls := findClass_of_methodNamed Bd.named
  have hnm := (name_of_methodNamed Bd.named Bd.method).1
  have X0 : Stand p l e xr10 (s.setVm s.vm) m #[(.ref b6), (.ref b9), (.int (0 : Int32)), (.int (0 : Int32)), .null] below meth c s₁ [] 0 0 := Stand.of_body Bd
  have e0 : s₁.heap = h0 := by rw [← hh, Bd.state]; rfl
  have N0 := Fr.nil n0
  have hS0 : s.Since s.vm h0.size := (State.WarmedH.refl s).since _
  have CH0 : CHr Z consts_1 s.vm s.heap s.vm h0 := by rw [hh]; exact CHr.refl hCH
  have hZ_0 := hZ
  show GoH p e below s (((Q_String_new_1 Z b6 b9 h0 n0, fun vm h => CHr Z consts_1 s.vm s.heap vm h) : (Option Value → Heap → List Loc → Prop) × (Vm → Heap → Prop))) xr10.cells xr10.slots s₁ (entryFrame m #[(.ref b6), (.ref b9), (.int (0 : Int32)), (.int (0 : Int32)), .null] 6)
  refine GoH.cast (ef_String_new_1 m b6 b9 (0 : Int32) (0 : Int32)) ?_
  show GoH p e below s _ _ _ s₁ (mkF m 0 #[.val (.ref b6), .val (.ref b9), .val (.int (0 : Int32)), .val (.int (0 : Int32)), .val .null, .unset] [])
  refine GoH.step (fun _ k => XS.aloadN X0.here hx rfl (hb hby d4_0) rfl rfl k) ?_
  show GoH p e below s _ _ _ s₁ (mkF m 1 #[.val (.ref b6), .val (.ref b9), .val (.int (0 : Int32)), .val (.int (0 : Int32)), .val .null, .unset] [(.ref b6)])
  obtain ⟨T12, X12, e12, st12⟩ := initO X0 hx hZ hown (tw15 hw) (tw16 hw) (tw17 hw) e0 (g := (mkF m 1 #[.val (.ref b6), .val (.ref b9), .val (.int (0 : Int32)), .val (.int (0 : Int32)), .val .null, .unset] [(.ref b6)])) rfl (by rw [hml]; rfl) rfl (hb hby d4_1) (by decide) (W := 0) (by show 2 * 0 + _ ≤ _; exact Nat.le_of_eq rfl) (by decide)
  refine GoH.step (fun _ k => st12 _ (XS.iloadN X12.here hx rfl (hb hby d4_4) rfl (XS.ifNo X12.here hx rfl (hb hby d4_5) rfl ((if0 _ _).trans (teq (by decide)).2) (XS.aloadN X12.here hx rfl (hb hby d4_8) rfl rfl k)))) ?_
  show GoH p e below s _ _ _ T12 (mkF m 9 #[.val (.ref b6), .val (.ref b9), .val (.int (0 : Int32)), .val (.int (0 : Int32)), .val .null, .unset] [(.ref b6)])
  obtain ⟨a13, T13, h13, k13, b13, kb13, X13, e13, E13, hS13, hk13, hZ13, hown13, A13, C13, D13, V13, -, -, ch13, -, sf13, st13⟩ := ldcCH X12 hx hZ hown (tw18 hw) (own_wS hw) e12 hS0 (Nat.le_refl _) (own_EW hw) (List.mem_of_getElem? (i := 1) rfl) CH0.1 (vs := []) (z := (0 : Int32)) ⟨by decide, rfl⟩ (by decide) rfl (g := (mkF m 9 #[.val (.ref b6), .val (.ref b9), .val (.int (0 : Int32)), .val (.int (0 : Int32)), .val .null, .unset] [(.ref b6)])) rfl (hb hby d4_9) (n := 0) (by decide) (by decide) (by decide) (by decide)
  have f14 := CH0.trans ch13
  refine GoH.step (fun _ k => st13 _ k) ?_
  show GoH p e below s _ _ _ T13 (mkF m 11 #[.val (.ref b6), .val (.ref b9), .val (.int (0 : Int32)), .val (.int (0 : Int32)), .val .null, .unset] [(.ref a13), (.ref b6)])
  obtain ⟨T15, X15, e15, st15⟩ := getF X13 hx hZ13 hown13 (host := "") (Or.inl (tw24 hw)) Via.refl e13 D13 (g := (mkF m 11 #[.val (.ref b6), .val (.ref b9), .val (.int (0 : Int32)), .val (.int (0 : Int32)), .val .null, .unset] [(.ref a13), (.ref b6)])) rfl rfl (hb hby d4_11)
  refine GoH.step (fun _ k => st15 _ k) ?_
  show GoH p e below s _ _ _ T15 (mkF m 14 #[.val (.ref b6), .val (.ref b9), .val (.int (0 : Int32)), .val (.int (0 : Int32)), .val .null, .unset] [(.ref b13), (.ref b6)])
  have f16 := (F_value_b6.ext E13)
  have f17 := (E_b6.ext E13)
  obtain ⟨T18, h18, X18, e18, W18, st18⟩ := putF X15 hx hZ13 hown13 (host := "") (Or.inl (tw24 hw)) Via.refl e15 f16 f17 (Or.inr ⟨(tw20 hw), rfl, hnm⟩) (tw5 hw) (ty := (.array .byte)) (by decide) rfl rfl (g := (mkF m 14 #[.val (.ref b6), .val (.ref b9), .val (.int (0 : Int32)), .val (.int (0 : Int32)), .val .null, .unset] [(.ref b13), (.ref b6)])) rfl rfl (hb hby d4_14)
  have f20 := f16.same W18
  have N21 := Fr.snoc X18 N0 g_b6
  refine GoH.step (fun _ k => st18 _ (XS.aloadN X18.here hx rfl (hb hby d4_17) rfl rfl k)) ?_
  show GoH p e below s _ _ _ T18 (mkF m 18 #[.val (.ref b6), .val (.ref b9), .val (.int (0 : Int32)), .val (.int (0 : Int32)), .val .null, .unset] [(.ref b6)])
  have f23 := (Nat.le_trans hk13 (Keep.of_wr W18).1)
  have sf24 := own_safeN (EL := consts_1) hZ13.alike f16 f17
  have f25 := (own_chW f14 W18 sf24)
  obtain ⟨a22, T22, h22, k22, b22, kb22, X22, e22, E22, hS22, hk22, hZ22, hown22, A22, C22, D22, V22, -, -, ch22, -, sf22, st22⟩ := ldcCH X18 hx hZ13 hown13 (tw18 hw) (own_wS hw) e18 hS13 f23 (own_EW hw) (List.mem_of_getElem? (i := 1) rfl) f25.1 (vs := []) (z := (0 : Int32)) ⟨by decide, rfl⟩ (by decide) rfl (g := (mkF m 18 #[.val (.ref b6), .val (.ref b9), .val (.int (0 : Int32)), .val (.int (0 : Int32)), .val .null, .unset] [(.ref b6)])) rfl (hb hby d4_18) (n := 0) (by decide) (by decide) (by decide) (by decide)
  have f26 := f25.trans ch22
  refine GoH.step (fun _ k => st22 _ k) ?_
  show GoH p e below s _ _ _ T22 (mkF m 20 #[.val (.ref b6), .val (.ref b9), .val (.int (0 : Int32)), .val (.int (0 : Int32)), .val .null, .unset] [(.ref a22), (.ref b6)])
  obtain ⟨T27, X27, e27, st27⟩ := getF X22 hx hZ22 hown22 (host := "") (Or.inl (tw25 hw)) Via.refl e22 C22 (g := (mkF m 20 #[.val (.ref b6), .val (.ref b9), .val (.int (0 : Int32)), .val (.int (0 : Int32)), .val .null, .unset] [(.ref a22), (.ref b6)])) rfl rfl (hb hby d4_20)
  refine GoH.step (fun _ k => st27 _ k) ?_
  show GoH p e below s _ _ _ T27 (mkF m 23 #[.val (.ref b6), .val (.ref b9), .val (.int (0 : Int32)), .val (.int (0 : Int32)), .val .null, .unset] [(.int (0 : Int32)), (.ref b6)])
  have f28 := (((F_coder_b6.ext E13).other W18 (Or.inr (slot_ne (Or.inr (tw21 hw)) (Or.inr (tw20 hw)) (by decide) (t := .byte) (t' := (.array .byte)) (by decide) (by decide)))).ext E22)
  have f29 := ((f17.wr W18).ext E22)
  obtain ⟨T30, h30, X30, e30, W30, st30⟩ := putFN X27 hx hZ22 hown22 (tw25 hw) Via.refl e27 f28 f29 (Or.inr ⟨(tw21 hw), rfl, hnm⟩) (tw5 hw) (ty := .byte) (v' := (.int (0 : Int32))) (by decide) rfl rfl (g := (mkF m 23 #[.val (.ref b6), .val (.ref b9), .val (.int (0 : Int32)), .val (.int (0 : Int32)), .val .null, .unset] [(.int (0 : Int32)), (.ref b6)])) rfl rfl (hb hby d4_23)
  have f31 := f28.same W30
  have N32 := Fr.snoc X30 N21 g_b6
  refine GoH.step (fun _ k => st30 _ k) ?_
  show GoH p e below s _ _ _ T30 (mkF m 26 #[.val (.ref b6), .val (.ref b9), .val (.int (0 : Int32)), .val (.int (0 : Int32)), .val .null, .unset] [])
  have f33 := (((((Keep.refl h0 [b6]).ext E13).wr W18 (Or.inl (List.mem_of_getElem? (i := 0) rfl))).ext E22).wr W30 (Or.inl (List.mem_of_getElem? (i := 0) rfl)))
  have f34 := ((f20.ext E22).other W30 (Or.inr (slot_ne (Or.inr (tw20 hw)) (Or.inr (tw21 hw)) (by decide) (t := (.array .byte)) (t' := .byte) (by decide) (by decide))))
  have ne35 : b6 ≠ b13 := (sf13 _ sf24).2
  have f36 := (((V13.other W18 (Ne.symm ne35)).ext E22).other W30 (Ne.symm ne35))
  have f37 := (Nat.le_trans hk22 (Keep.of_wr W30).1)
  have f38 := (f17.wr W18)
  have f39 := (CHr.safe ch22 f38.lt (Safe.wr W18 sf24 f14.1 sf24))
  have f40 := (own_chW f26 W30 f39)
  exact GoH.retV X30 hS22 hx hlk Bd.returns (hb hby d4_26) e30 f37 ⟨b13, kb13, rfl, N32, f33, f34, f31, f36⟩ (f40.trans (CHv.at X30 hZ22 (own_EW hw) f40.1)) (by decide) (by decide)

theorem ef_String_new_0 (m : MethodId) (x0 : Addr) (x1 : Addr) : entryFrame m #[(.ref x0), (.ref x1)] 2 = mkF m 0 #[.val (.ref x0), .val (.ref x1)] [] := by first | (simp [entryFrame, mkF, argsToLocals, Value.category]; done) | rfl
def Q_String_new_0 (Z : State) (b6 : Addr) (b9 : Addr) (k9 : ClassId) (h0 : Heap) (n0 : Nat) (v : Option Value) (h : Heap) (L : List Loc) : Prop := ∃ (b13_41 : Addr) (kb13_41 : ClassId), v = none ∧ Fr n0 L ∧ Keep h0 h [b6] ∧ Fld Z h b6 xs25 "value" "[B" (.ref b13_41) ∧ Fld Z h b6 xs25 "coder" "B" (.int (0 : Int32)) ∧ Arv Z h b13_41 kb13_41 .byte (0 : Int32) [] (.int (0 : Int32))
set_option maxRecDepth 65536 in
set_option maxHeartbeats 40000000 in
theorem rm_String_new_0 (l : Launch) (Z : State) (a0 : Array Value) (hw : ∀ d ∈ tables_1, d.before a0 Z = true) (ws : List Jvm.Cond) (b6 : Addr) (b9 : Addr) (k9 : ClassId) (h0 : Heap) (n0 : Nat) (Z0 : n0 ≤ h0.size) (V_b9 : Arv Z h0 b9 k9 .char (0 : Int32) [] (.int (0 : Int32))) (E_b6 : Exa Z h0 b6 xs25) (F_value_b6 : Fld Z h0 b6 xs25 "value" "[B" .null) (g_b6 : n0 ≤ b6) (F_coder_b6 : Fld Z h0 b6 xs25 "coder" "B" (.int (0 : Int32))) :
    MetFree l xm9 (head1 (Jvm.Cond.code xm9 jdk_42_method_3_code 2 none :: ws) xr11) (fun a U => a = #[(.ref b6), (.ref b9)] ∧ Z.Warmed39 U.vm ∧ U.heap = h0 ∧ CHv Z consts_1 U.vm h0) (fun _ _ _ _ _ => True) (fun _ U o U' => ∃ v L, o = .returned v ∧ Q_String_new_0 Z b6 b9 k9 h0 n0 v U'.heap L ∧ CHr Z consts_1 U.vm U.heap U'.vm U'.heap ∧ ReturnedEndW U o U' L xr11.cells xr11.slots) := by
  refine MetFree.of_bodySF (plainFor_of_name pn_1) hisR ?_
  intro p e s m args below meth c s₁ Bd hml0 hP hK
  obtain ⟨rfl, hZ, hh, hCH⟩ := hP
  have hx := Bd.exec
  have hby := Bd.bytes
  have hlk : meth.locks = false := BodyLoose.notSynchronized Bd
  have hml : c.maxLocals = 2 := hml0
  have hown : s.vm.findClass xs25 = some m.cls := findClass_of_methodNamed Bd.named
  have hnm := (name_of_methodNamed Bd.named Bd.method).1
  have X0 : Stand p l e xr11 (s.setVm s.vm) m #[(.ref b6), (.ref b9)] below meth c s₁ [] 0 0 := Stand.of_body Bd
  have e0 : s₁.heap = h0 := by rw [← hh, Bd.state]; rfl
  have N0 := Fr.nil n0
  have hS0 : s.Since s.vm h0.size := (State.WarmedH.refl s).since _
  have CH0 : CHr Z consts_1 s.vm s.heap s.vm h0 := by rw [hh]; exact CHr.refl hCH
  have hZ_0 := hZ
  show GoH p e below s (((Q_String_new_0 Z b6 b9 k9 h0 n0, fun vm h => CHr Z consts_1 s.vm s.heap vm h) : (Option Value → Heap → List Loc → Prop) × (Vm → Heap → Prop))) xr11.cells xr11.slots s₁ (entryFrame m #[(.ref b6), (.ref b9)] 2)
  refine GoH.cast (ef_String_new_0 m b6 b9) ?_
  show GoH p e below s _ _ _ s₁ (mkF m 0 #[.val (.ref b6), .val (.ref b9)] [])
  refine GoH.step (fun _ k => XS.aloadN X0.here hx rfl (hb hby d3_0) rfl rfl (XS.aloadN X0.here hx rfl (hb hby d3_1) rfl rfl (XS.iconst X0.here hx rfl (hb hby d3_2) (XS.aloadN X0.here hx rfl (hb hby d3_3) rfl rfl k)))) ?_
  show GoH p e below s _ _ _ s₁ (mkF m 4 #[.val (.ref b6), .val (.ref b9)] [(.ref b9), (.int (0 : Int32)), (.ref b9), (.ref b6)])
  obtain ⟨cl11, Ar11, -, Sz11, Ng11, -, -⟩ := id V_b9
  have aln11 := X0.arraylength hx (by rw [e0]; exact Ar11.1) (State.isArrayOf_alike hZ.alike Ar11.2.1) (g := (mkF m 4 #[.val (.ref b6), .val (.ref b9)] [(.ref b9), (.int (0 : Int32)), (.ref b9), (.ref b6)])) rfl rfl (hb hby d3_4)
  rw [len_of Sz11 Ng11] at aln11
  refine GoH.step (fun _ k => aln11 _ (XS.aconstNull X0.here hx rfl (hb hby d3_5) k)) ?_
  show GoH p e below s _ _ _ s₁ (mkF m 6 #[.val (.ref b6), .val (.ref b9)] [.null, (.int (0 : Int32)), (.int (0 : Int32)), (.ref b9), (.ref b6)])
  obtain ⟨_, _, ⟨T41, L41, k41, n41⟩, -, X41s, hs41, hg41, ⟨Lc41, hQ41, l41, y41, z41, ch41⟩, st41⟩ := X0.specialBackS hx (y := xm23) rfl hown (mvT hZ (tw11 hw)) (mvT hZ (tw12 hw)) (mvT hZ (tw14 hw)) (by decide) (backOfSH (W := 0) (rm_String_new_1 l Z a0 hw [] b6 b9 h0 n0 Z0 E_b6 F_value_b6 g_b6 F_coder_b6) hZ (tw14 hw) (tw6 hw) (by decide) (by decide) (own_EW hw) CH0.1) (g := (mkF m 6 #[.val (.ref b6), .val (.ref b9)] [.null, (.int (0 : Int32)), (.int (0 : Int32)), (.ref b9), (.ref b6)])) rfl (by rw [hml]; rfl) (Steps.refl _) (a := b6) (argsL := [(.ref b9), (.int (0 : Int32)), (.int (0 : Int32)), .null]) (rest := []) (lenOf pd_1 rfl) rfl (by show 2 * 0 + _ ≤ _; exact Nat.le_of_eq rfl) (hb hby d3_6) (fun _ _ => ⟨rfl, e0, (by decide : 0 + 4 ≤ _), (by decide : 0 + 8 ≤ _)⟩)
  dsimp only [Pt.U, Pt.locs, Pt.cells, Pt.slots] at X41s hs41 hg41 l41 y41 z41 st41 hQ41 ch41
  subst l41 y41 z41
  obtain ⟨X41, hS41, hZ41, hown41⟩ := rebS hS0 (by rw [e0]; exact (Nat.le_refl _)) X41s hs41 hg41 hZ hown
  obtain ⟨b13_41, kb13_41, rfl, N41q, K41, P41_0, P41_1, P41_2⟩ := hQ41
  have N42 := Fr.app N0 N41q
  have f43 := CH0.trans ch41
  refine GoH.step (fun _ k => st41.trans k) ?_
  show GoH p e below s _ _ _ T41 (mkF m 9 #[.val (.ref b6), .val (.ref b9)] [])
  have f44 := ((Keep.refl h0 [b6]).trans K41 (allS (Or.inl (List.mem_of_getElem? (i := 0) rfl)) all0))
  exact GoH.retV X41 hS41 hx hlk Bd.returns (hb hby d3_9) rfl (Nat.le_refl _) ⟨b13_41, kb13_41, rfl, N42, f44, P41_0, P41_1, P41_2⟩ (f43.trans (CHv.at X41 hZ41 (own_EW hw) f43.1)) (by decide) (by decide)

theorem ef_SubjectSetTypeToStringPinLaw_mk_0 (m : MethodId) (x0 : Int32) (x1 : Int32) (x2 : Int32) : entryFrame m #[(.int x0), (.int x1), (.int x2)] 3 = mkF m 0 #[.val (.int x0), .val (.int x1), .val (.int x2)] [] := by first | (simp [entryFrame, mkF, argsToLocals, Value.category]; done) | rfl
def Q_SubjectSetTypeToStringPinLaw_mk_0 (Z : State) (c0 : Int32) (c1 : Int32) (h0 : Heap) (n0 : Nat) (v : Option Value) (h : Heap) (L : List Loc) : Prop := ∃ (b6 : Addr) (b13_41_49 : Addr) (kb13_41_49 : ClassId), v = some (.ref b6) ∧ Fr n0 L ∧ Keep h0 h [] ∧ h0.size ≤ b6 ∧ Exa Z h b6 xs25 ∧ Fld Z h b6 xs25 "value" "[B" (.ref b13_41_49) ∧ Fld Z h b6 xs25 "coder" "B" (.int (0 : Int32)) ∧ Arv Z h b13_41_49 kb13_41_49 .byte (0 : Int32) [] (.int (0 : Int32))
set_option maxRecDepth 65536 in
set_option maxHeartbeats 40000000 in
theorem rm_SubjectSetTypeToStringPinLaw_mk_0 (l : Launch) (Z : State) (a0 : Array Value) (hw : ∀ d ∈ tables_1, d.before a0 Z = true) (ws : List Jvm.Cond) (c0 : Int32) (c1 : Int32) (h0 : Heap) (n0 : Nat) (Z0 : n0 ≤ h0.size) :
    MetFree l xm34 (head1 (Jvm.Cond.code xm34 method_3_code 3 (some (.object xs25)) :: ws) xr0) (fun a U => a = #[(.int (0 : Int32)), (.int c0), (.int c1)] ∧ Z.Warmed39 U.vm ∧ U.heap = h0 ∧ CHv Z consts_1 U.vm h0) (fun _ _ _ _ _ => True) (fun _ U o U' => ∃ v L, o = .returned v ∧ Q_SubjectSetTypeToStringPinLaw_mk_0 Z c0 c1 h0 n0 v U'.heap L ∧ CHr Z consts_1 U.vm U.heap U'.vm U'.heap ∧ ReturnedEndW U o U' L xr0.cells xr0.slots) := by
  refine MetFree.of_bodySF (plainFor_of_name pn_2) hisR ?_
  intro p e s m args below meth c s₁ Bd hml0 hP hK
  obtain ⟨rfl, hZ, hh, hCH⟩ := hP
  have hx := Bd.exec
  have hby := Bd.bytes
  have hlk : meth.locks = false := BodyLoose.notSynchronized Bd
  have hml : c.maxLocals = 3 := hml0
  have hown : s.vm.findClass xs0 = some m.cls := findClass_of_methodNamed Bd.named
  have hnm := (name_of_methodNamed Bd.named Bd.method).1
  have X0 : Stand p l e xr0 (s.setVm s.vm) m #[(.int (0 : Int32)), (.int c0), (.int c1)] below meth c s₁ [] 0 0 := Stand.of_body Bd
  have e0 : s₁.heap = h0 := by rw [← hh, Bd.state]; rfl
  have N0 := Fr.nil n0
  have hS0 : s.Since s.vm h0.size := (State.WarmedH.refl s).since _
  have CH0 : CHr Z consts_1 s.vm s.heap s.vm h0 := by rw [hh]; exact CHr.refl hCH
  have hZ_0 := hZ
  show GoH p e below s (((Q_SubjectSetTypeToStringPinLaw_mk_0 Z c0 c1 h0 n0, fun vm h => CHr Z consts_1 s.vm s.heap vm h) : (Option Value → Heap → List Loc → Prop) × (Vm → Heap → Prop))) xr0.cells xr0.slots s₁ (entryFrame m #[(.int (0 : Int32)), (.int c0), (.int c1)] 3)
  refine GoH.cast (ef_SubjectSetTypeToStringPinLaw_mk_0 m (0 : Int32) c0 c1) ?_
  show GoH p e below s _ _ _ s₁ (mkF m 0 #[.val (.int (0 : Int32)), .val (.int c0), .val (.int c1)] [])
  refine GoH.step (fun _ k => XS.iloadN X0.here hx rfl (hb hby d2_0) rfl (XS.ifNo X0.here hx rfl (hb hby d2_1) rfl ((if0 _ _).trans (teq (by decide)).2) k)) ?_
  show GoH p e below s _ _ _ s₁ (mkF m 4 #[.val (.int (0 : Int32)), .val (.int c0), .val (.int c1)] [])
  obtain ⟨T6, h6, X6, e6, E6, A6, D6, -, st6⟩ := newO X0 hx hZ hown (tw4 hw) (tw5 hw) (tw6 hw) e0 (g := (mkF m 4 #[.val (.int (0 : Int32)), .val (.int c0), .val (.int c1)] [])) rfl (hb hby d2_4) (by decide) (by decide)
  obtain ⟨b6, g6⟩ : ∃ z, z = h0.size := ⟨_, rfl⟩
  rw [← g6] at A6 D6 st6
  have f7 : Fld Z h6 b6 xs25 "value" "[B" .null := D6 (Or.inr (tw20 hw)) (ty := (.array .byte)) (by decide)
  have f8 : Fld Z h6 b6 xs25 "coder" "B" (.int (0 : Int32)) := D6 (Or.inr (tw21 hw)) (ty := .byte) (by decide)
  refine GoH.step (fun _ k => st6 _ (XS.dup X6.here hx rfl (hb hby d2_7) rfl rfl (XS.iconst X6.here hx rfl (hb hby d2_8) k))) ?_
  show GoH p e below s _ _ _ T6 (mkF m 9 #[.val (.int (0 : Int32)), .val (.int c0), .val (.int c1)] [(.int (0 : Int32)), (.ref b6), (.ref b6)])
  obtain ⟨T9, h9, k9, X9, e9, E9, A9, st9⟩ := newP (aty := .char) X6 hx hZ (tw7 hw) e6 (g := (mkF m 9 #[.val (.int (0 : Int32)), .val (.int c0), .val (.int c1)] [(.int (0 : Int32)), (.ref b6), (.ref b6)])) rfl (hb hby d2_9) rfl (by decide) (cap := 0) (by decide) (by decide) (by decide) (by decide)
  obtain ⟨b9, g9⟩ : ∃ z, z = h6.size := ⟨_, rfl⟩
  rw [← g9] at A9 st9
  have f10 : Arv Z h9 b9 k9 .char (0 : Int32) [] (.int (0 : Int32)) := Arv.new A9 (by decide)
  refine GoH.step (fun _ k => st9 _ k) ?_
  show GoH p e below s _ _ _ T9 (mkF m 11 #[.val (.int (0 : Int32)), .val (.int c0), .val (.int c1)] [(.ref b9), (.ref b6), (.ref b6)])
  have g19 := Nat.le_trans Z0 (Nat.le_of_eq g6.symm)
  have f45 := (Nat.le_trans (Nat.le_trans Z0 E6.1) E9.1)
  have f46 := (A6.ext E9)
  have f47 := (f7.ext E9)
  have f48 := (f8.ext E9)
  have f50 := (own_chE (own_chE CH0 E6) E9)
  obtain ⟨_, _, ⟨T49, L49, k49, n49⟩, -, X49s, hs49, hg49, ⟨Lc49, hQ49, l49, y49, z49, ch49⟩, st49⟩ := X9.specialBackS hx (y := xm9) rfl hown (mvT hZ (tw8 hw)) (mvT hZ (tw9 hw)) (mvT hZ (tw10 hw)) (by decide) (backOfSH (W := 1) (rm_String_new_0 l Z a0 hw [] b6 b9 k9 h9 n0 f45 f10 f46 f47 g19 f48) hZ (tw10 hw) (tw6 hw) (by decide) (by decide) (own_EW hw) f50.1) (g := (mkF m 11 #[.val (.int (0 : Int32)), .val (.int c0), .val (.int c1)] [(.ref b9), (.ref b6), (.ref b6)])) rfl (by rw [hml]; rfl) (Steps.refl _) (a := b6) (argsL := [(.ref b9)]) (rest := [(.ref b6)]) (lenOf pd_2 rfl) rfl (by show 2 * 0 + _ ≤ _; exact Nat.le_of_eq rfl) (hb hby d2_11) (fun _ _ => ⟨rfl, e9, (by decide : 2 + 4 ≤ _), (by decide : 4 + 8 ≤ _)⟩)
  dsimp only [Pt.U, Pt.locs, Pt.cells, Pt.slots] at X49s hs49 hg49 l49 y49 z49 st49 hQ49 ch49
  subst l49 y49 z49
  have f51 := (Nat.le_trans (Nat.le_trans (Nat.le_refl _) E6.1) E9.1)
  obtain ⟨X49, hS49, hZ49, hown49⟩ := rebS hS0 (by rw [e9]; exact f51) X49s hs49 hg49 hZ hown
  obtain ⟨b13_41_49, kb13_41_49, rfl, N49q, K49, P49_0, P49_1, P49_2⟩ := hQ49
  have N52 := Fr.app N0 N49q
  have f53 := f50.trans ch49
  refine GoH.step (fun _ k => st49.trans k) ?_
  show GoH p e below s _ _ _ T49 (mkF m 14 #[.val (.int (0 : Int32)), .val (.int c0), .val (.int c1)] [(.ref b6)])
  have z54 := Nat.le_trans (Nat.le_refl _) (Nat.le_of_eq g6.symm)
  have f55 := ((((Keep.refl h0 []).ext E6).ext E9).trans K49 (allS (Or.inr z54) all0))
  have f56 := (f46.keep K49)
  exact GoH.retA X49 hS49 hx hlk Bd.returns rfl rfl (hb hby d2_14) rfl (Nat.le_refl _) ⟨b6, b13_41_49, kb13_41_49, rfl, N52, f55, z54, f56, P49_0, P49_1, P49_2⟩ (f53.trans (CHv.at X49 hZ49 (own_EW hw) f53.1)) (by decide) (by decide)

theorem ef_Record_new_0 (m : MethodId) (x0 : Addr) : entryFrame m #[(.ref x0)] 1 = mkF m 0 #[.val (.ref x0)] [] := by first | (simp [entryFrame, mkF, argsToLocals, Value.category]; done) | rfl
def Q_Record_new_0 (Z : State) (b64 : Addr) (h0 : Heap) (n0 : Nat) (v : Option Value) (h : Heap) (L : List Loc) : Prop := v = none ∧ Fr n0 L ∧ h = h0
set_option maxRecDepth 65536 in
set_option maxHeartbeats 40000000 in
theorem rm_Record_new_0 (l : Launch) (Z : State) (a0 : Array Value) (hw : ∀ d ∈ tables_1, d.before a0 Z = true) (ws : List Jvm.Cond) (b64 : Addr) (h0 : Heap) (n0 : Nat) (Z0 : n0 ≤ h0.size) :
    MetFree l xm17 (head1 (Jvm.Cond.code xm17 jdk_30_method_1_code 1 none :: ws) xr12) (fun a U => a = #[(.ref b64)] ∧ Z.Warmed39 U.vm ∧ U.heap = h0) (fun _ _ _ _ _ => True) (fun _ U o U' => ∃ v L, o = .returned v ∧ Q_Record_new_0 Z b64 h0 n0 v U'.heap L ∧ FrameEnd U o U' L xr12.cells xr12.slots) := by
  refine MetFree.of_bodySF (plainFor_of_name pn_3) hisR ?_
  intro p e s m args below meth c s₁ Bd hml0 hP hK
  obtain ⟨rfl, hZ, hh⟩ := hP
  have hx := Bd.exec
  have hby := Bd.bytes
  have hlk : meth.locks = false := BodyLoose.notSynchronized Bd
  have hml : c.maxLocals = 1 := hml0
  have hown : s.vm.findClass xs26 = some m.cls := findClass_of_methodNamed Bd.named
  have hnm := (name_of_methodNamed Bd.named Bd.method).1
  have X0 : Stand p l e xr12 s m #[(.ref b64)] below meth c s₁ [] 0 0 := Stand.of_body Bd
  have e0 : s₁.heap = h0 := by rw [← hh, Bd.state]; rfl
  have N0 := Fr.nil n0
  show Go p e below s (Q_Record_new_0 Z b64 h0 n0) xr12.cells xr12.slots s₁ (entryFrame m #[(.ref b64)] 1)
  refine Go.cast (ef_Record_new_0 m b64) ?_
  show Go p e below s _ _ _ s₁ (mkF m 0 #[.val (.ref b64)] [])
  refine Go.step (fun _ k => XS.aloadN X0.here hx rfl (hb hby d6_0) rfl rfl k) ?_
  show Go p e below s _ _ _ s₁ (mkF m 1 #[.val (.ref b64)] [(.ref b64)])
  obtain ⟨T67, X67, e67, st67⟩ := initO X0 hx hZ hown (tw37 hw) (tw16 hw) (tw17 hw) e0 (g := (mkF m 1 #[.val (.ref b64)] [(.ref b64)])) rfl (by rw [hml]; rfl) rfl (hb hby d6_1) (by decide) (W := 0) (by show 2 * 0 + _ ≤ _; exact Nat.le_of_eq rfl) (by decide)
  refine Go.step (fun _ k => st67 _ k) ?_
  show Go p e below s _ _ _ T67 (mkF m 4 #[.val (.ref b64)] [])
  exact Go.retV X67 hx hlk Bd.returns (hb hby d6_4) e67 ⟨rfl, N0, rfl⟩ (by decide) (by decide)

theorem ef_SubjectSetType_new_0 (m : MethodId) (x0 : Addr) (x1 : Addr) (x2 : Addr) : entryFrame m #[(.ref x0), (.ref x1), (.ref x2)] 3 = mkF m 0 #[.val (.ref x0), .val (.ref x1), .val (.ref x2)] [] := by first | (simp [entryFrame, mkF, argsToLocals, Value.category]; done) | rfl
def Q_SubjectSetType_new_0 (Z : State) (b64 : Addr) (b6_57 : Addr) (b6_61 : Addr) (h0 : Heap) (n0 : Nat) (v : Option Value) (h : Heap) (L : List Loc) : Prop := v = none ∧ Fr n0 L ∧ Keep h0 h [b64] ∧ Fld Z h b64 xs2 "type" xs21 (.ref b6_57) ∧ Fld Z h b64 xs2 "relation" xs21 (.ref b6_61)
set_option maxRecDepth 65536 in
set_option maxHeartbeats 40000000 in
theorem rm_SubjectSetType_new_0 (l : Launch) (Z : State) (a0 : Array Value) (hw : ∀ d ∈ tables_1, d.before a0 Z = true) (ws : List Jvm.Cond) (b64 : Addr) (b6_57 : Addr) (b6_61 : Addr) (h0 : Heap) (n0 : Nat) (Z0 : n0 ≤ h0.size) (E_b64 : Exa Z h0 b64 xs2) (F_type_b64 : Fld Z h0 b64 xs2 "type" xs21 .null) (g_b64 : n0 ≤ b64) (F_relation_b64 : Fld Z h0 b64 xs2 "relation" xs21 .null) :
    MetFree l xm31 (head1 (Jvm.Cond.code xm31 prog_31_method_1_code 3 none :: ws) xr13) (fun a U => a = #[(.ref b64), (.ref b6_57), (.ref b6_61)] ∧ Z.Warmed39 U.vm ∧ U.heap = h0) (fun _ _ _ _ _ => True) (fun _ U o U' => ∃ v L, o = .returned v ∧ Q_SubjectSetType_new_0 Z b64 b6_57 b6_61 h0 n0 v U'.heap L ∧ FrameEnd U o U' L xr13.cells xr13.slots) := by
  refine MetFree.of_bodySF (plainFor_of_name pn_4) hisR ?_
  intro p e s m args below meth c s₁ Bd hml0 hP hK
  obtain ⟨rfl, hZ, hh⟩ := hP
  have hx := Bd.exec
  have hby := Bd.bytes
  have hlk : meth.locks = false := BodyLoose.notSynchronized Bd
  have hml : c.maxLocals = 3 := hml0
  have hown : s.vm.findClass xs2 = some m.cls := findClass_of_methodNamed Bd.named
  have hnm := (name_of_methodNamed Bd.named Bd.method).1
  have X0 : Stand p l e xr13 s m #[(.ref b64), (.ref b6_57), (.ref b6_61)] below meth c s₁ [] 0 0 := Stand.of_body Bd
  have e0 : s₁.heap = h0 := by rw [← hh, Bd.state]; rfl
  have N0 := Fr.nil n0
  show Go p e below s (Q_SubjectSetType_new_0 Z b64 b6_57 b6_61 h0 n0) xr13.cells xr13.slots s₁ (entryFrame m #[(.ref b64), (.ref b6_57), (.ref b6_61)] 3)
  refine Go.cast (ef_SubjectSetType_new_0 m b64 b6_57 b6_61) ?_
  show Go p e below s _ _ _ s₁ (mkF m 0 #[.val (.ref b64), .val (.ref b6_57), .val (.ref b6_61)] [])
  refine Go.step (fun _ k => XS.aloadN X0.here hx rfl (hb hby d5_0) rfl rfl k) ?_
  show Go p e below s _ _ _ s₁ (mkF m 1 #[.val (.ref b64), .val (.ref b6_57), .val (.ref b6_61)] [(.ref b64)])
  obtain ⟨_, _, ⟨T68, L68, k68, n68⟩, -, X68, ⟨Lc68, hQ68, l68, y68, z68⟩, st68⟩ := X0.specialBack hx (y := xm17) rfl hown (mvT hZ (tw32 hw)) (mvT hZ (tw33 hw)) (mvT hZ (tw36 hw)) (by decide) (backOf (W := 0) (rm_Record_new_0 l Z a0 hw [] b64 h0 n0 Z0) hZ (tw36 hw) (tw35 hw) (by decide) (by decide)) (g := (mkF m 1 #[.val (.ref b64), .val (.ref b6_57), .val (.ref b6_61)] [(.ref b64)])) rfl (by rw [hml]; rfl) (Steps.refl _) (a := b64) (argsL := []) (rest := []) (lenOf pd_4 rfl) rfl (by show 2 * 0 + _ ≤ _; exact Nat.le_of_eq rfl) (hb hby d5_1) (fun _ _ => ⟨rfl, e0, (by decide : 0 + 0 ≤ _), (by decide : 0 + 0 ≤ _)⟩)
  dsimp only [Pt.U, Pt.locs, Pt.cells, Pt.slots] at X68 l68 y68 z68 st68 hQ68
  subst l68 y68 z68
  obtain ⟨rfl, N68q, eq68⟩ := hQ68
  have N69 := Fr.app N0 N68q
  refine Go.step (fun _ k => st68.trans (XS.aloadN X68.here hx rfl (hb hby d5_4) rfl rfl (XS.aloadN X68.here hx rfl (hb hby d5_5) rfl rfl k))) ?_
  show Go p e below s _ _ _ T68 (mkF m 6 #[.val (.ref b64), .val (.ref b6_57), .val (.ref b6_61)] [(.ref b6_57), (.ref b64)])
  obtain ⟨T70, h70, X70, e70, W70, st70⟩ := putF X68 hx hZ hown (host := "") (Or.inl (tw38 hw)) Via.refl eq68 F_type_b64 E_b64 (Or.inr ⟨(tw39 hw), rfl, hnm⟩) (tw27 hw) (ty := (.object xs25)) (by decide) rfl rfl (g := (mkF m 6 #[.val (.ref b64), .val (.ref b6_57), .val (.ref b6_61)] [(.ref b6_57), (.ref b64)])) rfl rfl (hb hby d5_6)
  have f73 := F_type_b64.same W70
  have N74 := Fr.snoc X70 N69 g_b64
  refine Go.step (fun _ k => st70 _ (XS.aloadN X70.here hx rfl (hb hby d5_9) rfl rfl (XS.aloadN X70.here hx rfl (hb hby d5_10) rfl rfl k))) ?_
  show Go p e below s _ _ _ T70 (mkF m 11 #[.val (.ref b64), .val (.ref b6_57), .val (.ref b6_61)] [(.ref b6_61), (.ref b64)])
  have f75 := (F_relation_b64.other W70 (Or.inr (slot_ne (Or.inr (tw41 hw)) (Or.inr (tw39 hw)) (by decide) (t := (.object xs25)) (t' := (.object xs25)) (by decide) (by decide))))
  have f76 := (E_b64.wr W70)
  obtain ⟨T77, h77, X77, e77, W77, st77⟩ := putF X70 hx hZ hown (host := "") (Or.inl (tw40 hw)) Via.refl e70 f75 f76 (Or.inr ⟨(tw41 hw), rfl, hnm⟩) (tw27 hw) (ty := (.object xs25)) (by decide) rfl rfl (g := (mkF m 11 #[.val (.ref b64), .val (.ref b6_57), .val (.ref b6_61)] [(.ref b6_61), (.ref b64)])) rfl rfl (hb hby d5_11)
  have f78 := f75.same W77
  have N79 := Fr.snoc X77 N74 g_b64
  refine Go.step (fun _ k => st77 _ k) ?_
  show Go p e below s _ _ _ T77 (mkF m 14 #[.val (.ref b64), .val (.ref b6_57), .val (.ref b6_61)] [])
  have f80 := (((Keep.refl h0 [b64]).wr W70 (Or.inl (List.mem_of_getElem? (i := 0) rfl))).wr W77 (Or.inl (List.mem_of_getElem? (i := 0) rfl)))
  have f81 := (f73.other W77 (Or.inr (slot_ne (Or.inr (tw39 hw)) (Or.inr (tw41 hw)) (by decide) (t := (.object xs25)) (t' := (.object xs25)) (by decide) (by decide))))
  have f82 := (Nat.le_trans (Nat.le_trans (Nat.le_refl _) (Keep.of_wr W70).1) (Keep.of_wr W77).1)
  exact Go.retV X77 hx hlk Bd.returns (hb hby d5_14) e77 ⟨rfl, N79, f80, f81, f78⟩ (by decide) (by decide)

theorem ef_AbstractStringBuilder_new_0 (m : MethodId) (x0 : Addr) (x1 : Int32) : entryFrame m #[(.ref x0), (.int x1)] 2 = mkF m 0 #[.val (.ref x0), .val (.int x1)] [] := by first | (simp [entryFrame, mkF, argsToLocals, Value.category]; done) | rfl
def Q_AbstractStringBuilder_new_0 (Z : State) (b86 : Addr) (cs : Int32) (h0 : Heap) (n0 : Nat) (v : Option Value) (h : Heap) (L : List Loc) : Prop := ∃ (b92 : Addr) (k92 : ClassId), v = none ∧ Fr n0 L ∧ Keep h0 h [b86] ∧ Fld Z h b86 xs10 "value" "[B" (.ref b92) ∧ Fld Z h b86 xs10 "coder" "B" (.int (0 : Int32)) ∧ Fld Z h b86 xs10 "count" "I" (.int (0 : Int32)) ∧ h0.size ≤ b92 ∧ Arv Z h b92 k92 .byte (16 : Int32) [(.int (0 : Int32)), (.int (0 : Int32)), (.int (0 : Int32)), (.int (0 : Int32)), (.int (0 : Int32)), (.int (0 : Int32)), (.int (0 : Int32)), (.int (0 : Int32)), (.int (0 : Int32)), (.int (0 : Int32)), (.int (0 : Int32)), (.int (0 : Int32)), (.int (0 : Int32)), (.int (0 : Int32)), (.int (0 : Int32)), (.int (0 : Int32))] (.int (0 : Int32))
set_option maxRecDepth 65536 in
set_option maxHeartbeats 40000000 in
theorem rm_AbstractStringBuilder_new_0 (l : Launch) (Z : State) (a0 : Array Value) (hw : ∀ d ∈ tables_1, d.before a0 Z = true) (ws : List Jvm.Cond) (b86 : Addr) (cs : Int32) (h0 : Heap) (n0 : Nat) (Z0 : n0 ≤ h0.size) (Z_S_COMPACT_STRINGS : Sta Z Z.heap xs25 xs28 "Z" (.int cs)) (O0 : Old Z n0 h0) (hcs : ¬ cs = (0 : Int32)) (E_b86 : Exa Z h0 b86 xs14) (F_value_b86 : Fld Z h0 b86 xs10 "value" "[B" .null) (g_b86 : n0 ≤ b86) (F_coder_b86 : Fld Z h0 b86 xs10 "coder" "B" (.int (0 : Int32))) (F_count_b86 : Fld Z h0 b86 xs10 "count" "I" (.int (0 : Int32))) :
    MetFree l xm13 (head1 (Jvm.Cond.code xm13 jdk_68_method_2_code 2 none :: ws) xr1) (fun a U => a = #[(.ref b86), (.int (16 : Int32))] ∧ Z.Warmed39 U.vm ∧ U.heap = h0) (fun _ _ _ _ _ => True) (fun _ U o U' => ∃ v L, o = .returned v ∧ Q_AbstractStringBuilder_new_0 Z b86 cs h0 n0 v U'.heap L ∧ FrameEnd U o U' L xr1.cells xr1.slots) := by
  refine MetFree.of_bodySF (plainFor_of_name pn_5) hisR ?_
  intro p e s m args below meth c s₁ Bd hml0 hP hK
  obtain ⟨rfl, hZ, hh⟩ := hP
  have hx := Bd.exec
  have hby := Bd.bytes
  have hlk : meth.locks = false := BodyLoose.notSynchronized Bd
  have hml : c.maxLocals = 2 := hml0
  have hown : s.vm.findClass xs10 = some m.cls := findClass_of_methodNamed Bd.named
  have hnm := (name_of_methodNamed Bd.named Bd.method).1
  have X0 : Stand p l e xr1 s m #[(.ref b86), (.int (16 : Int32))] below meth c s₁ [] 0 0 := Stand.of_body Bd
  have e0 : s₁.heap = h0 := by rw [← hh, Bd.state]; rfl
  have N0 := Fr.nil n0
  show Go p e below s (Q_AbstractStringBuilder_new_0 Z b86 cs h0 n0) xr1.cells xr1.slots s₁ (entryFrame m #[(.ref b86), (.int (16 : Int32))] 2)
  refine Go.cast (ef_AbstractStringBuilder_new_0 m b86 (16 : Int32)) ?_
  show Go p e below s _ _ _ s₁ (mkF m 0 #[.val (.ref b86), .val (.int (16 : Int32))] [])
  refine Go.step (fun _ k => XS.aloadN X0.here hx rfl (hb hby d9_0) rfl rfl k) ?_
  show Go p e below s _ _ _ s₁ (mkF m 1 #[.val (.ref b86), .val (.int (16 : Int32))] [(.ref b86)])
  obtain ⟨T90, X90, e90, st90⟩ := initO X0 hx hZ hown (tw59 hw) (tw16 hw) (tw17 hw) e0 (g := (mkF m 1 #[.val (.ref b86), .val (.int (16 : Int32))] [(.ref b86)])) rfl (by rw [hml]; rfl) rfl (hb hby d9_1) (by decide) (W := 0) (by show 2 * 0 + _ ≤ _; exact Nat.le_of_eq rfl) (by decide)
  refine Go.step (fun _ k => st90 _ k) ?_
  show Go p e below s _ _ _ T90 (mkF m 4 #[.val (.ref b86), .val (.int (16 : Int32))] [])
  obtain ⟨T91, X91, e91, st91⟩ := getS2 X90 hx hZ hown (host := "") (Or.inl (tw60 hw)) Via.refl e90 (Z_S_COMPACT_STRINGS.ext O0.2) (g := (mkF m 4 #[.val (.ref b86), .val (.int (16 : Int32))] [])) rfl (hb hby d9_4)
  refine Go.step (fun _ k => st91 _ (XS.ifNo X91.here hx rfl (hb hby d9_7) rfl ((if0 _ _).trans (feq hcs).1) (XS.aloadN X91.here hx rfl (hb hby d9_10) rfl rfl (XS.iloadN X91.here hx rfl (hb hby d9_11) rfl k)))) ?_
  show Go p e below s _ _ _ T91 (mkF m 12 #[.val (.ref b86), .val (.int (16 : Int32))] [(.int (16 : Int32)), (.ref b86)])
  obtain ⟨T92, h92, k92, X92, e92, E92, A92, st92⟩ := newP (aty := .byte) X91 hx hZ (tw19 hw) e91 (g := (mkF m 12 #[.val (.ref b86), .val (.int (16 : Int32))] [(.int (16 : Int32)), (.ref b86)])) rfl (hb hby d9_12) rfl (by decide) (cap := 16) (by decide) (by decide) (by decide) (by decide)
  obtain ⟨b92, g92⟩ : ∃ z, z = h0.size := ⟨_, rfl⟩
  rw [← g92] at A92 st92
  have f93 : Arv Z h92 b92 k92 .byte (16 : Int32) [(.int (0 : Int32)), (.int (0 : Int32)), (.int (0 : Int32)), (.int (0 : Int32)), (.int (0 : Int32)), (.int (0 : Int32)), (.int (0 : Int32)), (.int (0 : Int32)), (.int (0 : Int32)), (.int (0 : Int32)), (.int (0 : Int32)), (.int (0 : Int32)), (.int (0 : Int32)), (.int (0 : Int32)), (.int (0 : Int32)), (.int (0 : Int32))] (.int (0 : Int32)) := (Arv.new A92 (by decide)).pad (pad_rep [] (.int (0 : Int32)) 16)
  refine Go.step (fun _ k => st92 _ k) ?_
  show Go p e below s _ _ _ T92 (mkF m 14 #[.val (.ref b86), .val (.int (16 : Int32))] [(.ref b92), (.ref b86)])
  have f94 := (F_value_b86.ext E92)
  have f95 := (E_b86.ext E92)
  obtain ⟨T96, h96, X96, e96, W96, st96⟩ := putF X92 hx hZ hown (host := "") (Or.inl (tw61 hw)) Via.refl e92 f94 f95 (Or.inl (tw62 hw)) (tw48 hw) (ty := (.array .byte)) (by decide) rfl rfl (g := (mkF m 14 #[.val (.ref b86), .val (.int (16 : Int32))] [(.ref b92), (.ref b86)])) rfl rfl (hb hby d9_14)
  have f98 := f94.same W96
  have N99 := Fr.snoc X96 N0 g_b86
  refine Go.step (fun _ k => st96 _ (XS.aloadN X96.here hx rfl (hb hby d9_17) rfl rfl (XS.iconst X96.here hx rfl (hb hby d9_18) k))) ?_
  show Go p e below s _ _ _ T96 (mkF m 19 #[.val (.ref b86), .val (.int (16 : Int32))] [(.int (0 : Int32)), (.ref b86)])
  have f100 := ((F_coder_b86.ext E92).other W96 (Or.inr (slot_ne (Or.inl (tw64 hw)) (Or.inl (tw62 hw)) (by decide) (t := .byte) (t' := (.array .byte)) (by decide) (by decide))))
  have f101 := (f95.wr W96)
  obtain ⟨T102, h102, X102, e102, W102, st102⟩ := putFN X96 hx hZ hown (tw63 hw) Via.refl e96 f100 f101 (Or.inl (tw64 hw)) (tw48 hw) (ty := .byte) (v' := (.int (0 : Int32))) (by decide) rfl rfl (g := (mkF m 19 #[.val (.ref b86), .val (.int (16 : Int32))] [(.int (0 : Int32)), (.ref b86)])) rfl rfl (hb hby d9_19)
  have f103 := f100.same W102
  have N104 := Fr.snoc X102 N99 g_b86
  refine Go.step (fun _ k => st102 _ (XS.goto X102.here hx rfl (pc0 := 22) (pc' := 38) rfl (hb hby d9_22) (by decide) (by decide) k)) ?_
  show Go p e below s _ _ _ T102 (mkF m 38 #[.val (.ref b86), .val (.int (16 : Int32))] [])
  have f105 := ((((Keep.refl h0 [b86]).ext E92).wr W96 (Or.inl (List.mem_of_getElem? (i := 0) rfl))).wr W102 (Or.inl (List.mem_of_getElem? (i := 0) rfl)))
  have f106 := (f98.other W102 (Or.inr (slot_ne (Or.inl (tw62 hw)) (Or.inl (tw64 hw)) (by decide) (t := (.array .byte)) (t' := .byte) (by decide) (by decide))))
  have f107 := (((F_count_b86.ext E92).other W96 (Or.inr (slot_ne (Or.inl (tw87 hw)) (Or.inl (tw62 hw)) (by decide) (t := .int) (t' := (.array .byte)) (by decide) (by decide)))).other W102 (Or.inr (slot_ne (Or.inl (tw87 hw)) (Or.inl (tw64 hw)) (by decide) (t := .int) (t' := .byte) (by decide) (by decide))))
  have z108 := Nat.le_trans (Nat.le_refl _) (Nat.le_of_eq g92.symm)
  have ne109 : b86 ≠ b92 := Nat.ne_of_lt (Nat.lt_of_lt_of_le E_b86.lt (Nat.le_of_eq g92.symm))
  have f110 := ((f93.other W96 (Ne.symm ne109)).other W102 (Ne.symm ne109))
  have f111 := (Nat.le_trans (Nat.le_trans (Nat.le_trans (Nat.le_refl _) E92.1) (Keep.of_wr W96).1) (Keep.of_wr W102).1)
  exact Go.retV X102 hx hlk Bd.returns (hb hby d9_38) e102 ⟨b92, k92, rfl, N104, f105, f106, f103, f107, z108, f110⟩ (by decide) (by decide)

theorem ef_StringBuilder_new_0 (m : MethodId) (x0 : Addr) : entryFrame m #[(.ref x0)] 1 = mkF m 0 #[.val (.ref x0)] [] := by first | (simp [entryFrame, mkF, argsToLocals, Value.category]; done) | rfl
def Q_StringBuilder_new_0 (Z : State) (b86 : Addr) (cs : Int32) (h0 : Heap) (n0 : Nat) (v : Option Value) (h : Heap) (L : List Loc) : Prop := ∃ (b92_112 : Addr) (k92_112 : ClassId), v = none ∧ Fr n0 L ∧ Keep h0 h [b86] ∧ Fld Z h b86 xs10 "value" "[B" (.ref b92_112) ∧ Fld Z h b86 xs10 "coder" "B" (.int (0 : Int32)) ∧ Fld Z h b86 xs10 "count" "I" (.int (0 : Int32)) ∧ h0.size ≤ b92_112 ∧ Arv Z h b92_112 k92_112 .byte (16 : Int32) [(.int (0 : Int32)), (.int (0 : Int32)), (.int (0 : Int32)), (.int (0 : Int32)), (.int (0 : Int32)), (.int (0 : Int32)), (.int (0 : Int32)), (.int (0 : Int32)), (.int (0 : Int32)), (.int (0 : Int32)), (.int (0 : Int32)), (.int (0 : Int32)), (.int (0 : Int32)), (.int (0 : Int32)), (.int (0 : Int32)), (.int (0 : Int32))] (.int (0 : Int32))
set_option maxRecDepth 65536 in
set_option maxHeartbeats 40000000 in
theorem rm_StringBuilder_new_0 (l : Launch) (Z : State) (a0 : Array Value) (hw : ∀ d ∈ tables_1, d.before a0 Z = true) (ws : List Jvm.Cond) (b86 : Addr) (cs : Int32) (h0 : Heap) (n0 : Nat) (Z0 : n0 ≤ h0.size) (Z_S_COMPACT_STRINGS : Sta Z Z.heap xs25 xs28 "Z" (.int cs)) (O0 : Old Z n0 h0) (hcs : ¬ cs = (0 : Int32)) (E_b86 : Exa Z h0 b86 xs14) (F_value_b86 : Fld Z h0 b86 xs10 "value" "[B" .null) (g_b86 : n0 ≤ b86) (F_coder_b86 : Fld Z h0 b86 xs10 "coder" "B" (.int (0 : Int32))) (F_count_b86 : Fld Z h0 b86 xs10 "count" "I" (.int (0 : Int32))) :
    MetFree l xm18 (head1 (Jvm.Cond.code xm18 jdk_67_method_1_code 1 none :: ws) xr2) (fun a U => a = #[(.ref b86)] ∧ Z.Warmed39 U.vm ∧ U.heap = h0) (fun _ _ _ _ _ => True) (fun _ U o U' => ∃ v L, o = .returned v ∧ Q_StringBuilder_new_0 Z b86 cs h0 n0 v U'.heap L ∧ FrameEnd U o U' L xr2.cells xr2.slots) := by
  refine MetFree.of_bodySF (plainFor_of_name pn_6) hisR ?_
  intro p e s m args below meth c s₁ Bd hml0 hP hK
  obtain ⟨rfl, hZ, hh⟩ := hP
  have hx := Bd.exec
  have hby := Bd.bytes
  have hlk : meth.locks = false := BodyLoose.notSynchronized Bd
  have hml : c.maxLocals = 1 := hml0
  have hown : s.vm.findClass xs14 = some m.cls := findClass_of_methodNamed Bd.named
  have hnm := (name_of_methodNamed Bd.named Bd.method).1
  have X0 : Stand p l e xr2 s m #[(.ref b86)] below meth c s₁ [] 0 0 := Stand.of_body Bd
  have e0 : s₁.heap = h0 := by rw [← hh, Bd.state]; rfl
  have N0 := Fr.nil n0
  show Go p e below s (Q_StringBuilder_new_0 Z b86 cs h0 n0) xr2.cells xr2.slots s₁ (entryFrame m #[(.ref b86)] 1)
  refine Go.cast (ef_StringBuilder_new_0 m b86) ?_
  show Go p e below s _ _ _ s₁ (mkF m 0 #[.val (.ref b86)] [])
  refine Go.step (fun _ k => XS.aloadN X0.here hx rfl (hb hby d8_0) rfl rfl (XS.bipush X0.here hx rfl (hb hby d8_1) k)) ?_
  show Go p e below s _ _ _ s₁ (mkF m 3 #[.val (.ref b86)] [(.int (16 : Int32)), (.ref b86)])
  obtain ⟨_, _, ⟨T112, L112, k112, n112⟩, -, X112, ⟨Lc112, hQ112, l112, y112, z112⟩, st112⟩ := X0.specialBack hx (y := xm13) rfl hown (mvT hZ (tw53 hw)) (mvT hZ (tw54 hw)) (mvT hZ (tw58 hw)) (by decide) (backOf (W := 0) (rm_AbstractStringBuilder_new_0 l Z a0 hw [] b86 cs h0 n0 Z0 Z_S_COMPACT_STRINGS O0 hcs E_b86 F_value_b86 g_b86 F_coder_b86 F_count_b86) hZ (tw58 hw) (tw57 hw) (by decide) (by decide)) (g := (mkF m 3 #[.val (.ref b86)] [(.int (16 : Int32)), (.ref b86)])) rfl (by rw [hml]; rfl) (Steps.refl _) (a := b86) (argsL := [(.int (16 : Int32))]) (rest := []) (lenOf pd_6 rfl) rfl (by show 2 * 0 + _ ≤ _; exact Nat.le_of_eq rfl) (hb hby d8_3) (fun _ _ => ⟨rfl, e0, (by decide : 0 + 1 ≤ _), (by decide : 0 + 16 ≤ _)⟩)
  dsimp only [Pt.U, Pt.locs, Pt.cells, Pt.slots] at X112 l112 y112 z112 st112 hQ112
  subst l112 y112 z112
  obtain ⟨b92_112, k92_112, rfl, N112q, K112, P112_0, P112_1, P112_2, P112_3, P112_4⟩ := hQ112
  have N113 := Fr.app N0 N112q
  refine Go.step (fun _ k => st112.trans k) ?_
  show Go p e below s _ _ _ T112 (mkF m 6 #[.val (.ref b86)] [])
  have f114 := ((Keep.refl h0 [b86]).trans K112 (allS (Or.inl (List.mem_of_getElem? (i := 0) rfl)) all0))
  have z115 := Nat.le_trans (Nat.le_refl _) P112_3
  have f116 := (Nat.le_trans (Nat.le_refl _) K112.1)
  exact Go.retV X112 hx hlk Bd.returns (hb hby d8_6) rfl ⟨b92_112, k92_112, rfl, N113, f114, P112_0, P112_1, P112_2, z115, P112_4⟩ (by decide) (by decide)

theorem ef_String_coder_0 (m : MethodId) (x0 : Addr) : entryFrame m #[(.ref x0)] 1 = mkF m 0 #[.val (.ref x0)] [] := by first | (simp [entryFrame, mkF, argsToLocals, Value.category]; done) | rfl
def Q_String_coder_0 (Z : State) (b6_57 : Addr) (cs : Int32) (h0 : Heap) (n0 : Nat) (v : Option Value) (h : Heap) (L : List Loc) : Prop := v = some (.int (0 : Int32)) ∧ Fr n0 L ∧ h = h0
set_option maxRecDepth 65536 in
set_option maxHeartbeats 40000000 in
theorem rm_String_coder_0 (l : Launch) (Z : State) (a0 : Array Value) (hw : ∀ d ∈ tables_1, d.before a0 Z = true) (ws : List Jvm.Cond) (b6_57 : Addr) (cs : Int32) (h0 : Heap) (n0 : Nat) (Z0 : n0 ≤ h0.size) (Z_S_COMPACT_STRINGS : Sta Z Z.heap xs25 xs28 "Z" (.int cs)) (O0 : Old Z n0 h0) (hcs : ¬ cs = (0 : Int32)) (F_coder_b6_57 : Fld Z h0 b6_57 xs25 "coder" "B" (.int (0 : Int32))) :
    MetFree l xm24 (head1 (Jvm.Cond.code xm24 jdk_42_method_152_code 1 (some .byte) :: ws) xr31) (fun a U => a = #[(.ref b6_57)] ∧ Z.Warmed39 U.vm ∧ U.heap = h0) (fun _ _ _ _ _ => True) (fun _ U o U' => ∃ v L, o = .returned v ∧ Q_String_coder_0 Z b6_57 cs h0 n0 v U'.heap L ∧ FrameEnd U o U' L xr31.cells xr31.slots) := by
  refine MetFree.of_bodySF (plainFor_of_name pn_1) hisR ?_
  intro p e s m args below meth c s₁ Bd hml0 hP hK
  obtain ⟨rfl, hZ, hh⟩ := hP
  have hx := Bd.exec
  have hby := Bd.bytes
  have hlk : meth.locks = false := BodyLoose.notSynchronized Bd
  have hml : c.maxLocals = 1 := hml0
  have hown : s.vm.findClass xs25 = some m.cls := findClass_of_methodNamed Bd.named
  have hnm := (name_of_methodNamed Bd.named Bd.method).1
  have X0 : Stand p l e xr31 s m #[(.ref b6_57)] below meth c s₁ [] 0 0 := Stand.of_body Bd
  have e0 : s₁.heap = h0 := by rw [← hh, Bd.state]; rfl
  have N0 := Fr.nil n0
  show Go p e below s (Q_String_coder_0 Z b6_57 cs h0 n0) xr31.cells xr31.slots s₁ (entryFrame m #[(.ref b6_57)] 1)
  refine Go.cast (ef_String_coder_0 m b6_57) ?_
  show Go p e below s _ _ _ s₁ (mkF m 0 #[.val (.ref b6_57)] [])
  obtain ⟨T128, X128, e128, st128⟩ := getS2 X0 hx hZ hown (host := "") (Or.inl (tw85 hw)) Via.refl e0 (Z_S_COMPACT_STRINGS.ext O0.2) (g := (mkF m 0 #[.val (.ref b6_57)] [])) rfl (hb hby d13_0)
  refine Go.step (fun _ k => st128 _ (XS.ifNo X128.here hx rfl (hb hby d13_3) rfl ((if0 _ _).trans (feq hcs).1) (XS.aloadN X128.here hx rfl (hb hby d13_6) rfl rfl k))) ?_
  show Go p e below s _ _ _ T128 (mkF m 7 #[.val (.ref b6_57)] [(.ref b6_57)])
  obtain ⟨T129, X129, e129, st129⟩ := getF X128 hx hZ hown (host := "") (Or.inl (tw25 hw)) Via.refl e128 F_coder_b6_57 (g := (mkF m 7 #[.val (.ref b6_57)] [(.ref b6_57)])) rfl rfl (hb hby d13_7)
  refine Go.step (fun _ k => st129 _ (XS.goto X129.here hx rfl (pc0 := 10) (pc' := 14) rfl (hb hby d13_10) (by decide) (by decide) k)) ?_
  show Go p e below s _ _ _ T129 (mkF m 14 #[.val (.ref b6_57)] [(.int (0 : Int32))])
  exact Go.retN X129 hx hlk (t := .byte) Bd.returns (by simp) (hb hby d13_14) e129 ⟨rfl, N0, rfl⟩ (by decide) (by decide)

theorem ef_String_length_0 (m : MethodId) (x0 : Addr) : entryFrame m #[(.ref x0)] 1 = mkF m 0 #[.val (.ref x0)] [] := by first | (simp [entryFrame, mkF, argsToLocals, Value.category]; done) | rfl
def Q_String_length_0 (Z : State) (b6_57 : Addr) (b13_41_49_57 : Addr) (kb13_41_49_57 : ClassId) (n125 : Int32) (l126 : List Value) (cs : Int32) (h0 : Heap) (n0 : Nat) (v : Option Value) (h : Heap) (L : List Loc) : Prop := v = some (.int (n125 >>> ((0 : Int32) &&& 31))) ∧ Fr n0 L ∧ h = h0
set_option maxRecDepth 65536 in
set_option maxHeartbeats 40000000 in
theorem rm_String_length_0 (l : Launch) (Z : State) (a0 : Array Value) (hw : ∀ d ∈ tables_1, d.before a0 Z = true) (ws : List Jvm.Cond) (b6_57 : Addr) (b13_41_49_57 : Addr) (kb13_41_49_57 : ClassId) (n125 : Int32) (l126 : List Value) (cs : Int32) (h0 : Heap) (n0 : Nat) (Z0 : n0 ≤ h0.size) (F_value_b6_57 : Fld Z h0 b6_57 xs25 "value" "[B" (.ref b13_41_49_57)) (V_b13_41_49_57 : Arv Z h0 b13_41_49_57 kb13_41_49_57 .byte n125 l126 (.int (0 : Int32))) (E_b6_57 : Exa Z h0 b6_57 xs25) (Z_S_COMPACT_STRINGS : Sta Z Z.heap xs25 xs28 "Z" (.int cs)) (O0 : Old Z n0 h0) (hcs : ¬ cs = (0 : Int32)) (F_coder_b6_57 : Fld Z h0 b6_57 xs25 "coder" "B" (.int (0 : Int32))) :
    MetFree l xm19 (head1 (Jvm.Cond.code xm19 jdk_42_method_54_code 1 (some .int) :: ws) xr14) (fun a U => a = #[(.ref b6_57)] ∧ Z.Warmed39 U.vm ∧ U.heap = h0) (fun _ _ _ _ _ => True) (fun _ U o U' => ∃ v L, o = .returned v ∧ Q_String_length_0 Z b6_57 b13_41_49_57 kb13_41_49_57 n125 l126 cs h0 n0 v U'.heap L ∧ FrameEnd U o U' L xr14.cells xr14.slots) := by
  refine MetFree.of_bodySF (plainFor_of_name pn_1) hisR ?_
  intro p e s m args below meth c s₁ Bd hml0 hP hK
  obtain ⟨rfl, hZ, hh⟩ := hP
  have hx := Bd.exec
  have hby := Bd.bytes
  have hlk : meth.locks = false := BodyLoose.notSynchronized Bd
  have hml : c.maxLocals = 1 := hml0
  have hown : s.vm.findClass xs25 = some m.cls := findClass_of_methodNamed Bd.named
  have hnm := (name_of_methodNamed Bd.named Bd.method).1
  have X0 : Stand p l e xr14 s m #[(.ref b6_57)] below meth c s₁ [] 0 0 := Stand.of_body Bd
  have e0 : s₁.heap = h0 := by rw [← hh, Bd.state]; rfl
  have N0 := Fr.nil n0
  show Go p e below s (Q_String_length_0 Z b6_57 b13_41_49_57 kb13_41_49_57 n125 l126 cs h0 n0) xr14.cells xr14.slots s₁ (entryFrame m #[(.ref b6_57)] 1)
  refine Go.cast (ef_String_length_0 m b6_57) ?_
  show Go p e below s _ _ _ s₁ (mkF m 0 #[.val (.ref b6_57)] [])
  refine Go.step (fun _ k => XS.aloadN X0.here hx rfl (hb hby d12_0) rfl rfl k) ?_
  show Go p e below s _ _ _ s₁ (mkF m 1 #[.val (.ref b6_57)] [(.ref b6_57)])
  obtain ⟨T124, X124, e124, st124⟩ := getF X0 hx hZ hown (host := "") (Or.inl (tw24 hw)) Via.refl e0 F_value_b6_57 (g := (mkF m 1 #[.val (.ref b6_57)] [(.ref b6_57)])) rfl rfl (hb hby d12_1)
  refine Go.step (fun _ k => st124 _ k) ?_
  show Go p e below s _ _ _ T124 (mkF m 4 #[.val (.ref b6_57)] [(.ref b13_41_49_57)])
  obtain ⟨cl127, Ar127, -, Sz127, Ng127, -, -⟩ := id V_b13_41_49_57
  have aln127 := X124.arraylength hx (by rw [e124]; exact Ar127.1) (State.isArrayOf_alike hZ.alike Ar127.2.1) (g := (mkF m 4 #[.val (.ref b6_57)] [(.ref b13_41_49_57)])) rfl rfl (hb hby d12_4)
  rw [len_of Sz127 Ng127] at aln127
  refine Go.step (fun _ k => aln127 _ (XS.aloadN X124.here hx rfl (hb hby d12_5) rfl rfl k)) ?_
  show Go p e below s _ _ _ T124 (mkF m 6 #[.val (.ref b6_57)] [(.ref b6_57), (.int n125)])
  obtain ⟨cq130, kq130, q130a, q130b, q130c⟩ := isOf hZ e124 E_b6_57
  obtain ⟨_, _, ⟨T130, L130, k130, n130⟩, -, X130, ⟨Lc130, hQ130, l130, y130, z130⟩, st130⟩ := X124.virtualBack hx (y := xm24) (z := xm24) hown (mvT hZ (tw80 hw)) (mvT hZ (tw81 hw)) (notFace_of_selects (args := #[]) (mvT hZ (tw83 hw))) (mvT hZ (tw83 hw)) (mvT hZ (tw82 hw)) (by decide) (backOf (W := 1) (rm_String_coder_0 l Z a0 hw [] b6_57 cs h0 n0 Z0 Z_S_COMPACT_STRINGS O0 hcs F_coder_b6_57) hZ (tw84 hw) (tw6 hw) (by decide) (by decide)) q130a q130c (g := (mkF m 6 #[.val (.ref b6_57)] [(.ref b6_57), (.int n125)])) rfl (by rw [hml]; rfl) (Steps.refl _) (argsL := []) (rest := [(.int n125)]) (lenOf pd_7 rfl) rfl (by show 2 * 0 + _ ≤ _; exact Nat.le_of_eq rfl) (hb hby d12_6) (fun _ _ => ⟨rfl, e124, (by decide : 0 + 0 ≤ _), (by decide : 0 + 0 ≤ _)⟩)
  dsimp only [Pt.U, Pt.locs, Pt.cells, Pt.slots] at X130 l130 y130 z130 st130 hQ130
  subst l130 y130 z130
  obtain ⟨rfl, N130q, eq130⟩ := hQ130
  have N131 := Fr.app N0 N130q
  refine Go.step (fun _ k => st130.trans (XS.ishr X130.here hx rfl (hb hby d12_9) rfl k)) ?_
  show Go p e below s _ _ _ T130 (mkF m 10 #[.val (.ref b6_57)] [(.int (n125 >>> ((0 : Int32) &&& 31)))])
  exact Go.retI X130 hx hlk Bd.returns (hb hby d12_10) eq130 ⟨rfl, N131, rfl⟩ (by decide) (by decide)

theorem ef_AbstractStringBuilder_ensureCapacityInternal_0 (m : MethodId) (x0 : Addr) (x1 : Int32) : entryFrame m #[(.ref x0), (.int x1)] 3 = mkF m 0 #[.val (.ref x0), .val (.int x1), .unset] [] := by first | (simp [entryFrame, mkF, argsToLocals, Value.category]; done) | rfl
def Q_AbstractStringBuilder_ensureCapacityInternal_0 (Z : State) (b86 : Addr) (n136 : Int32) (b92_112_119 : Addr) (k92_112_119 : ClassId) (l138 : List Value) (h0 : Heap) (n0 : Nat) (v : Option Value) (h : Heap) (L : List Loc) : Prop := v = none ∧ Fr n0 L ∧ h = h0
set_option maxRecDepth 65536 in
set_option maxHeartbeats 40000000 in
theorem rm_AbstractStringBuilder_ensureCapacityInternal_0 (l : Launch) (Z : State) (a0 : Array Value) (hw : ∀ d ∈ tables_1, d.before a0 Z = true) (ws : List Jvm.Cond) (b86 : Addr) (n136 : Int32) (b92_112_119 : Addr) (k92_112_119 : ClassId) (l138 : List Value) (h0 : Heap) (n0 : Nat) (Z0 : n0 ≤ h0.size) (F_value_b86 : Fld Z h0 b86 xs10 "value" "[B" (.ref b92_112_119)) (V_b92_112_119 : Arv Z h0 b92_112_119 k92_112_119 .byte (16 : Int32) l138 (.int (0 : Int32))) (F_coder_b86 : Fld Z h0 b86 xs10 "coder" "B" (.int (0 : Int32))) (d_141 : ¬ (0 : Int32) < (n136 - (16 : Int32))) :
    MetFree l xm32 (head1 (Jvm.Cond.code xm32 jdk_68_method_9_code 3 none :: ws) xr31) (fun a U => a = #[(.ref b86), (.int n136)] ∧ Z.Warmed39 U.vm ∧ U.heap = h0) (fun _ _ _ _ _ => True) (fun _ U o U' => ∃ v L, o = .returned v ∧ Q_AbstractStringBuilder_ensureCapacityInternal_0 Z b86 n136 b92_112_119 k92_112_119 l138 h0 n0 v U'.heap L ∧ FrameEnd U o U' L xr31.cells xr31.slots) := by
  refine MetFree.of_bodySF (plainFor_of_name pn_5) hisR ?_
  intro p e s m args below meth c s₁ Bd hml0 hP hK
  obtain ⟨rfl, hZ, hh⟩ := hP
  have hx := Bd.exec
  have hby := Bd.bytes
  have hlk : meth.locks = false := BodyLoose.notSynchronized Bd
  have hml : c.maxLocals = 3 := hml0
  have hown : s.vm.findClass xs10 = some m.cls := findClass_of_methodNamed Bd.named
  have hnm := (name_of_methodNamed Bd.named Bd.method).1
  have X0 : Stand p l e xr31 s m #[(.ref b86), (.int n136)] below meth c s₁ [] 0 0 := Stand.of_body Bd
  have e0 : s₁.heap = h0 := by rw [← hh, Bd.state]; rfl
  have N0 := Fr.nil n0
  show Go p e below s (Q_AbstractStringBuilder_ensureCapacityInternal_0 Z b86 n136 b92_112_119 k92_112_119 l138 h0 n0) xr31.cells xr31.slots s₁ (entryFrame m #[(.ref b86), (.int n136)] 3)
  refine Go.cast (ef_AbstractStringBuilder_ensureCapacityInternal_0 m b86 n136) ?_
  show Go p e below s _ _ _ s₁ (mkF m 0 #[.val (.ref b86), .val (.int n136), .unset] [])
  refine Go.step (fun _ k => XS.aloadN X0.here hx rfl (hb hby d14_0) rfl rfl k) ?_
  show Go p e below s _ _ _ s₁ (mkF m 1 #[.val (.ref b86), .val (.int n136), .unset] [(.ref b86)])
  obtain ⟨T137, X137, e137, st137⟩ := getF X0 hx hZ hown (host := "") (Or.inl (tw61 hw)) Via.refl e0 F_value_b86 (g := (mkF m 1 #[.val (.ref b86), .val (.int n136), .unset] [(.ref b86)])) rfl rfl (hb hby d14_1)
  refine Go.step (fun _ k => st137 _ k) ?_
  show Go p e below s _ _ _ T137 (mkF m 4 #[.val (.ref b86), .val (.int n136), .unset] [(.ref b92_112_119)])
  obtain ⟨cl139, Ar139, -, Sz139, Ng139, -, -⟩ := id V_b92_112_119
  have aln139 := X137.arraylength hx (by rw [e137]; exact Ar139.1) (State.isArrayOf_alike hZ.alike Ar139.2.1) (g := (mkF m 4 #[.val (.ref b86), .val (.int n136), .unset] [(.ref b92_112_119)])) rfl rfl (hb hby d14_4)
  rw [len_of Sz139 Ng139] at aln139
  refine Go.step (fun _ k => aln139 _ (XS.aloadN X137.here hx rfl (hb hby d14_5) rfl rfl k)) ?_
  show Go p e below s _ _ _ T137 (mkF m 6 #[.val (.ref b86), .val (.int n136), .unset] [(.ref b86), (.int (16 : Int32))])
  obtain ⟨T140, X140, e140, st140⟩ := getF X137 hx hZ hown (host := "") (Or.inl (tw63 hw)) Via.refl e137 F_coder_b86 (g := (mkF m 6 #[.val (.ref b86), .val (.int n136), .unset] [(.ref b86), (.int (16 : Int32))])) rfl rfl (hb hby d14_6)
  refine Go.step (fun _ k => st140 _ (XS.ishr X140.here hx rfl (hb hby d14_9) rfl (XS.istoreN X140.here hx rfl (hb hby d14_10) rfl (l' := #[.val (.ref b86), .val (.int n136), .val (.int (16 : Int32))]) rfl (XS.iloadN X140.here hx rfl (hb hby d14_11) rfl (XS.iloadN X140.here hx rfl (hb hby d14_12) rfl (XS.isub X140.here hx rfl (hb hby d14_13) rfl (XS.ifYes X140.here hx rfl (pc0 := 14) (pc' := 38) rfl (hb hby d14_14) rfl ((if0 _ _).trans (flt d_141).2.2.2) (by decide) (by decide) k))))))) ?_
  show Go p e below s _ _ _ T140 (mkF m 38 #[.val (.ref b86), .val (.int n136), .val (.int (16 : Int32))] [])
  exact Go.retV X140 hx hlk Bd.returns (hb hby d14_38) e140 ⟨rfl, N0, rfl⟩ (by decide) (by decide)

theorem ef_AbstractStringBuilder_inflateIfNeededFor_0 (m : MethodId) (x0 : Addr) (x1 : Addr) : entryFrame m #[(.ref x0), (.ref x1)] 2 = mkF m 0 #[.val (.ref x0), .val (.ref x1)] [] := by first | (simp [entryFrame, mkF, argsToLocals, Value.category]; done) | rfl
def Q_AbstractStringBuilder_inflateIfNeededFor_0 (Z : State) (b86 : Addr) (b6_57 : Addr) (cs : Int32) (h0 : Heap) (n0 : Nat) (v : Option Value) (h : Heap) (L : List Loc) : Prop := v = none ∧ Fr n0 L ∧ h = h0
set_option maxRecDepth 65536 in
set_option maxHeartbeats 40000000 in
theorem rm_AbstractStringBuilder_inflateIfNeededFor_0 (l : Launch) (Z : State) (a0 : Array Value) (hw : ∀ d ∈ tables_1, d.before a0 Z = true) (ws : List Jvm.Cond) (b86 : Addr) (b6_57 : Addr) (cs : Int32) (h0 : Heap) (n0 : Nat) (Z0 : n0 ≤ h0.size) (Z_S_COMPACT_STRINGS : Sta Z Z.heap xs25 xs28 "Z" (.int cs)) (O0 : Old Z n0 h0) (hcs : ¬ cs = (0 : Int32)) (F_coder_b86 : Fld Z h0 b86 xs10 "coder" "B" (.int (0 : Int32))) (E_b6_57 : Exa Z h0 b6_57 xs25) (F_coder_b6_57 : Fld Z h0 b6_57 xs25 "coder" "B" (.int (0 : Int32))) :
    MetFree l xm33 (head1 (Jvm.Cond.code xm33 jdk_68_method_71_code 2 none :: ws) xr14) (fun a U => a = #[(.ref b86), (.ref b6_57)] ∧ Z.Warmed39 U.vm ∧ U.heap = h0) (fun _ _ _ _ _ => True) (fun _ U o U' => ∃ v L, o = .returned v ∧ Q_AbstractStringBuilder_inflateIfNeededFor_0 Z b86 b6_57 cs h0 n0 v U'.heap L ∧ FrameEnd U o U' L xr14.cells xr14.slots) := by
  refine MetFree.of_bodySF (plainFor_of_name pn_5) hisR ?_
  intro p e s m args below meth c s₁ Bd hml0 hP hK
  obtain ⟨rfl, hZ, hh⟩ := hP
  have hx := Bd.exec
  have hby := Bd.bytes
  have hlk : meth.locks = false := BodyLoose.notSynchronized Bd
  have hml : c.maxLocals = 2 := hml0
  have hown : s.vm.findClass xs10 = some m.cls := findClass_of_methodNamed Bd.named
  have hnm := (name_of_methodNamed Bd.named Bd.method).1
  have X0 : Stand p l e xr14 s m #[(.ref b86), (.ref b6_57)] below meth c s₁ [] 0 0 := Stand.of_body Bd
  have e0 : s₁.heap = h0 := by rw [← hh, Bd.state]; rfl
  have N0 := Fr.nil n0
  show Go p e below s (Q_AbstractStringBuilder_inflateIfNeededFor_0 Z b86 b6_57 cs h0 n0) xr14.cells xr14.slots s₁ (entryFrame m #[(.ref b86), (.ref b6_57)] 2)
  refine Go.cast (ef_AbstractStringBuilder_inflateIfNeededFor_0 m b86 b6_57) ?_
  show Go p e below s _ _ _ s₁ (mkF m 0 #[.val (.ref b86), .val (.ref b6_57)] [])
  obtain ⟨T146, X146, e146, st146⟩ := getS2 X0 hx hZ hown (host := "") (Or.inl (tw60 hw)) Via.refl e0 (Z_S_COMPACT_STRINGS.ext O0.2) (g := (mkF m 0 #[.val (.ref b86), .val (.ref b6_57)] [])) rfl (hb hby d16_0)
  refine Go.step (fun _ k => st146 _ (XS.ifNo X146.here hx rfl (hb hby d16_3) rfl ((if0 _ _).trans (feq hcs).1) (XS.aloadN X146.here hx rfl (hb hby d16_6) rfl rfl k))) ?_
  show Go p e below s _ _ _ T146 (mkF m 7 #[.val (.ref b86), .val (.ref b6_57)] [(.ref b86)])
  obtain ⟨T147, X147, e147, st147⟩ := getF X146 hx hZ hown (host := "") (Or.inl (tw63 hw)) Via.refl e146 F_coder_b86 (g := (mkF m 7 #[.val (.ref b86), .val (.ref b6_57)] [(.ref b86)])) rfl rfl (hb hby d16_7)
  refine Go.step (fun _ k => st147 _ (XS.aloadN X147.here hx rfl (hb hby d16_10) rfl rfl k)) ?_
  show Go p e below s _ _ _ T147 (mkF m 11 #[.val (.ref b86), .val (.ref b6_57)] [(.ref b6_57), (.int (0 : Int32))])
  obtain ⟨cq148, kq148, q148a, q148b, q148c⟩ := isOf hZ e147 E_b6_57
  obtain ⟨_, _, ⟨T148, L148, k148, n148⟩, -, X148, ⟨Lc148, hQ148, l148, y148, z148⟩, st148⟩ := X147.virtualBack hx (y := xm24) (z := xm24) hown (mvT hZ (tw103 hw)) (mvT hZ (tw81 hw)) (notFace_of_selects (args := #[]) (mvT hZ (tw83 hw))) (mvT hZ (tw83 hw)) (mvT hZ (tw82 hw)) (by decide) (backOf (W := 1) (rm_String_coder_0 l Z a0 hw [] b6_57 cs h0 n0 Z0 Z_S_COMPACT_STRINGS O0 hcs F_coder_b6_57) hZ (tw84 hw) (tw6 hw) (by decide) (by decide)) q148a q148c (g := (mkF m 11 #[.val (.ref b86), .val (.ref b6_57)] [(.ref b6_57), (.int (0 : Int32))])) rfl (by rw [hml]; rfl) (Steps.refl _) (argsL := []) (rest := [(.int (0 : Int32))]) (lenOf pd_7 rfl) rfl (by show 2 * 0 + _ ≤ _; exact Nat.le_of_eq rfl) (hb hby d16_11) (fun _ _ => ⟨rfl, e147, (by decide : 0 + 0 ≤ _), (by decide : 0 + 0 ≤ _)⟩)
  dsimp only [Pt.U, Pt.locs, Pt.cells, Pt.slots] at X148 l148 y148 z148 st148 hQ148
  subst l148 y148 z148
  obtain ⟨rfl, N148q, eq148⟩ := hQ148
  have N149 := Fr.app N0 N148q
  refine Go.step (fun _ k => st148.trans (XS.icmpYes X148.here hx rfl (pc0 := 14) (pc' := 21) rfl (hb hby d16_14) rfl (teq (by decide)).1 (by decide) (by decide) k)) ?_
  show Go p e below s _ _ _ T148 (mkF m 21 #[.val (.ref b86), .val (.ref b6_57)] [])
  exact Go.retV X148 hx hlk Bd.returns (hb hby d16_21) eq148 ⟨rfl, N149, rfl⟩ (by decide) (by decide)

theorem ef_String_getBytes_0 (m : MethodId) (x0 : Addr) (x1 : Addr) (x2 : Int32) (x3 : Int32) : entryFrame m #[(.ref x0), (.ref x1), (.int x2), (.int x3)] 4 = mkF m 0 #[.val (.ref x0), .val (.ref x1), .val (.int x2), .val (.int x3)] [] := by first | (simp [entryFrame, mkF, argsToLocals, Value.category]; done) | rfl
def Q_String_getBytes_0 (Z : State) (b6_57 : Addr) (b92_112_119 : Addr) (n134 : Int32) (cs : Int32) (b13_41_49_57 : Addr) (kb13_41_49_57 : ClassId) (n125 : Int32) (l126 : List Value) (k92_112_119 : ClassId) (l138 : List Value) (h0 : Heap) (n0 : Nat) (v : Option Value) (h : Heap) (L : List Loc) : Prop := v = none ∧ Fr n0 L ∧ Keep h0 h [b92_112_119] ∧ Arv Z h b92_112_119 k92_112_119 .byte (16 : Int32) (own_cp l138 (n134 <<< ((0 : Int32) &&& 31)) l126 (0 : Int32) n125 (.int (0 : Int32))) (.int (0 : Int32))
set_option maxRecDepth 65536 in
set_option maxHeartbeats 40000000 in
theorem rm_String_getBytes_0 (l : Launch) (Z : State) (a0 : Array Value) (hw : ∀ d ∈ tables_1, d.before a0 Z = true) (ws : List Jvm.Cond) (b6_57 : Addr) (b92_112_119 : Addr) (n134 : Int32) (cs : Int32) (b13_41_49_57 : Addr) (kb13_41_49_57 : ClassId) (n125 : Int32) (l126 : List Value) (k92_112_119 : ClassId) (l138 : List Value) (h0 : Heap) (n0 : Nat) (Z0 : n0 ≤ h0.size) (E_b6_57 : Exa Z h0 b6_57 xs25) (F_coder_b6_57 : Fld Z h0 b6_57 xs25 "coder" "B" (.int (0 : Int32))) (Z_S_COMPACT_STRINGS : Sta Z Z.heap xs25 xs28 "Z" (.int cs)) (O0 : Old Z n0 h0) (hcs : ¬ cs = (0 : Int32)) (F_value_b6_57 : Fld Z h0 b6_57 xs25 "value" "[B" (.ref b13_41_49_57)) (V_b13_41_49_57 : Arv Z h0 b13_41_49_57 kb13_41_49_57 .byte n125 l126 (.int (0 : Int32))) (V_b92_112_119 : Arv Z h0 b92_112_119 k92_112_119 .byte (16 : Int32) l138 (.int (0 : Int32))) (g_b92_112_119 : n0 ≤ b92_112_119) (d_161 : ¬ (n134 <<< ((0 : Int32) &&& 31)) < (0 : Int32)) (d_162 : ¬ n125 < (0 : Int32)) (d_163 : ((0 : Int32)).toNatClampNeg + (n125).toNatClampNeg ≤ (n125).toNatClampNeg) (d_164 : ((n134 <<< ((0 : Int32) &&& 31))).toNatClampNeg + (n125).toNatClampNeg ≤ ((16 : Int32)).toNatClampNeg) (d_165 : ((n134 <<< ((0 : Int32) &&& 31))).toNatClampNeg + (n125).toNatClampNeg ≤ (l138 : List Value).length) :
    MetFree l xm5 (head1 (Jvm.Cond.code xm5 jdk_42_method_147_code 4 none :: ws) xr15) (fun a U => a = #[(.ref b6_57), (.ref b92_112_119), (.int n134), (.int (0 : Int32))] ∧ Z.Warmed39 U.vm ∧ U.heap = h0) (fun _ _ _ _ _ => True) (fun _ U o U' => ∃ v L, o = .returned v ∧ Q_String_getBytes_0 Z b6_57 b92_112_119 n134 cs b13_41_49_57 kb13_41_49_57 n125 l126 k92_112_119 l138 h0 n0 v U'.heap L ∧ FrameEnd U o U' L xr15.cells xr15.slots) := by
  refine MetFree.of_bodySF (plainFor_of_name pn_1) hisR ?_
  intro p e s m args below meth c s₁ Bd hml0 hP hK
  obtain ⟨rfl, hZ, hh⟩ := hP
  have hx := Bd.exec
  have hby := Bd.bytes
  have hlk : meth.locks = false := BodyLoose.notSynchronized Bd
  have hml : c.maxLocals = 4 := hml0
  have hown : s.vm.findClass xs25 = some m.cls := findClass_of_methodNamed Bd.named
  have hnm := (name_of_methodNamed Bd.named Bd.method).1
  have X0 : Stand p l e xr15 s m #[(.ref b6_57), (.ref b92_112_119), (.int n134), (.int (0 : Int32))] below meth c s₁ [] 0 0 := Stand.of_body Bd
  have e0 : s₁.heap = h0 := by rw [← hh, Bd.state]; rfl
  have N0 := Fr.nil n0
  show Go p e below s (Q_String_getBytes_0 Z b6_57 b92_112_119 n134 cs b13_41_49_57 kb13_41_49_57 n125 l126 k92_112_119 l138 h0 n0) xr15.cells xr15.slots s₁ (entryFrame m #[(.ref b6_57), (.ref b92_112_119), (.int n134), (.int (0 : Int32))] 4)
  refine Go.cast (ef_String_getBytes_0 m b6_57 b92_112_119 n134 (0 : Int32)) ?_
  show Go p e below s _ _ _ s₁ (mkF m 0 #[.val (.ref b6_57), .val (.ref b92_112_119), .val (.int n134), .val (.int (0 : Int32))] [])
  refine Go.step (fun _ k => XS.aloadN X0.here hx rfl (hb hby d17_0) rfl rfl k) ?_
  show Go p e below s _ _ _ s₁ (mkF m 1 #[.val (.ref b6_57), .val (.ref b92_112_119), .val (.int n134), .val (.int (0 : Int32))] [(.ref b6_57)])
  obtain ⟨cq154, kq154, q154a, q154b, q154c⟩ := isOf hZ e0 E_b6_57
  obtain ⟨_, _, ⟨T154, L154, k154, n154⟩, -, X154, ⟨Lc154, hQ154, l154, y154, z154⟩, st154⟩ := X0.virtualBack hx (y := xm24) (z := xm24) hown (mvT hZ (tw80 hw)) (mvT hZ (tw81 hw)) (notFace_of_selects (args := #[]) (mvT hZ (tw83 hw))) (mvT hZ (tw83 hw)) (mvT hZ (tw82 hw)) (by decide) (backOf (W := 0) (rm_String_coder_0 l Z a0 hw [] b6_57 cs h0 n0 Z0 Z_S_COMPACT_STRINGS O0 hcs F_coder_b6_57) hZ (tw84 hw) (tw6 hw) (by decide) (by decide)) q154a q154c (g := (mkF m 1 #[.val (.ref b6_57), .val (.ref b92_112_119), .val (.int n134), .val (.int (0 : Int32))] [(.ref b6_57)])) rfl (by rw [hml]; rfl) (Steps.refl _) (argsL := []) (rest := []) (lenOf pd_7 rfl) rfl (by show 2 * 0 + _ ≤ _; exact Nat.le_of_eq rfl) (hb hby d17_1) (fun _ _ => ⟨rfl, e0, (by decide : 0 + 0 ≤ _), (by decide : 0 + 0 ≤ _)⟩)
  dsimp only [Pt.U, Pt.locs, Pt.cells, Pt.slots] at X154 l154 y154 z154 st154 hQ154
  subst l154 y154 z154
  obtain ⟨rfl, N154q, eq154⟩ := hQ154
  have N155 := Fr.app N0 N154q
  refine Go.step (fun _ k => st154.trans (XS.iloadN X154.here hx rfl (hb hby d17_4) rfl (XS.icmpNo X154.here hx rfl (hb hby d17_5) rfl (teq (by decide)).2 (XS.aloadN X154.here hx rfl (hb hby d17_8) rfl rfl k)))) ?_
  show Go p e below s _ _ _ T154 (mkF m 9 #[.val (.ref b6_57), .val (.ref b92_112_119), .val (.int n134), .val (.int (0 : Int32))] [(.ref b6_57)])
  obtain ⟨T156, X156, e156, st156⟩ := getF X154 hx hZ hown (host := "") (Or.inl (tw24 hw)) Via.refl eq154 F_value_b6_57 (g := (mkF m 9 #[.val (.ref b6_57), .val (.ref b92_112_119), .val (.int n134), .val (.int (0 : Int32))] [(.ref b6_57)])) rfl rfl (hb hby d17_9)
  refine Go.step (fun _ k => st156 _ (XS.iconst X156.here hx rfl (hb hby d17_12) (XS.aloadN X156.here hx rfl (hb hby d17_13) rfl rfl (XS.iloadN X156.here hx rfl (hb hby d17_14) rfl (XS.iloadN X156.here hx rfl (hb hby d17_15) rfl (XS.ishl X156.here hx rfl (hb hby d17_16) rfl (XS.aloadN X156.here hx rfl (hb hby d17_17) rfl rfl k))))))) ?_
  show Go p e below s _ _ _ T156 (mkF m 18 #[.val (.ref b6_57), .val (.ref b92_112_119), .val (.int n134), .val (.int (0 : Int32))] [(.ref b6_57), (.int (n134 <<< ((0 : Int32) &&& 31))), (.ref b92_112_119), (.int (0 : Int32)), (.ref b13_41_49_57)])
  obtain ⟨T157, X157, e157, st157⟩ := getF X156 hx hZ hown (host := "") (Or.inl (tw24 hw)) Via.refl e156 F_value_b6_57 (g := (mkF m 18 #[.val (.ref b6_57), .val (.ref b92_112_119), .val (.int n134), .val (.int (0 : Int32))] [(.ref b6_57), (.int (n134 <<< ((0 : Int32) &&& 31))), (.ref b92_112_119), (.int (0 : Int32)), (.ref b13_41_49_57)])) rfl rfl (hb hby d17_18)
  refine Go.step (fun _ k => st157 _ k) ?_
  show Go p e below s _ _ _ T157 (mkF m 21 #[.val (.ref b6_57), .val (.ref b92_112_119), .val (.int n134), .val (.int (0 : Int32))] [(.ref b13_41_49_57), (.int (n134 <<< ((0 : Int32) &&& 31))), (.ref b92_112_119), (.int (0 : Int32)), (.ref b13_41_49_57)])
  obtain ⟨cl158, Ar158, -, Sz158, Ng158, -, -⟩ := id V_b13_41_49_57
  have aln158 := X157.arraylength hx (by rw [e157]; exact Ar158.1) (State.isArrayOf_alike hZ.alike Ar158.2.1) (g := (mkF m 21 #[.val (.ref b6_57), .val (.ref b92_112_119), .val (.int n134), .val (.int (0 : Int32))] [(.ref b13_41_49_57), (.int (n134 <<< ((0 : Int32) &&& 31))), (.ref b92_112_119), (.int (0 : Int32)), (.ref b13_41_49_57)])) rfl rfl (hb hby d17_21)
  rw [len_of Sz158 Ng158] at aln158
  refine Go.step (fun _ k => aln158 _ k) ?_
  show Go p e below s _ _ _ T157 (mkF m 22 #[.val (.ref b6_57), .val (.ref b92_112_119), .val (.int n134), .val (.int (0 : Int32))] [(.int n125), (.int (n134 <<< ((0 : Int32) &&& 31))), (.ref b92_112_119), (.int (0 : Int32)), (.ref b13_41_49_57)])
  obtain ⟨T159, h159, L159, X159, e159, N159, K159, V159, st159⟩ := cpA X157 hx hZ hown (tw109 hw) (tw112 hw) (tw110 hw) (tw111 hw) e157 V_b13_41_49_57 V_b92_112_119 (Or.inl ⟨rfl, rfl⟩) (by decide) d_161 d_162 d_163 d_164 rfl d_165 N155 g_b92_112_119 (g := (mkF m 22 #[.val (.ref b6_57), .val (.ref b92_112_119), .val (.int n134), .val (.int (0 : Int32))] [(.int n125), (.int (n134 <<< ((0 : Int32) &&& 31))), (.ref b92_112_119), (.int (0 : Int32)), (.ref b13_41_49_57)])) rfl (by rw [hml]; rfl) rfl (hb hby d17_22) (by decide) (W := 0) (by show 2 * 0 + _ ≤ _; exact Nat.le_of_eq rfl) (by decide)
  have f166 : Arv Z h159 b92_112_119 k92_112_119 .byte (16 : Int32) (own_cp l138 (n134 <<< ((0 : Int32) &&& 31)) l126 (0 : Int32) n125 (.int (0 : Int32))) (.int (0 : Int32)) := V159
  refine Go.step (fun _ k => st159 _ (XS.goto X159.here hx rfl (pc0 := 25) (pc' := 43) rfl (hb hby d17_25) (by decide) (by decide) k)) ?_
  show Go p e below s _ _ _ T159 (mkF m 43 #[.val (.ref b6_57), .val (.ref b92_112_119), .val (.int n134), .val (.int (0 : Int32))] [])
  have f167 := ((Keep.refl h0 [b92_112_119]).trans K159 (allS (Or.inl (List.mem_of_getElem? (i := 0) rfl)) all0))
  have f168 := (Nat.le_trans (Nat.le_refl _) K159.1)
  exact Go.retV X159 hx hlk Bd.returns (hb hby d17_43) e159 ⟨rfl, N159, f167, f166⟩ (by decide) (by decide)

theorem ef_AbstractStringBuilder_putStringAt_0 (m : MethodId) (x0 : Addr) (x1 : Int32) (x2 : Addr) : entryFrame m #[(.ref x0), (.int x1), (.ref x2)] 3 = mkF m 0 #[.val (.ref x0), .val (.int x1), .val (.ref x2)] [] := by first | (simp [entryFrame, mkF, argsToLocals, Value.category]; done) | rfl
def Q_AbstractStringBuilder_putStringAt_0 (Z : State) (b86 : Addr) (n134 : Int32) (b6_57 : Addr) (cs : Int32) (b92_112_119 : Addr) (b13_41_49_57 : Addr) (kb13_41_49_57 : ClassId) (n125 : Int32) (l126 : List Value) (k92_112_119 : ClassId) (l138 : List Value) (h0 : Heap) (n0 : Nat) (v : Option Value) (h : Heap) (L : List Loc) : Prop := v = none ∧ Fr n0 L ∧ Keep h0 h [b92_112_119] ∧ Arv Z h b92_112_119 k92_112_119 .byte (16 : Int32) (own_cp l138 (n134 <<< ((0 : Int32) &&& 31)) l126 (0 : Int32) n125 (.int (0 : Int32))) (.int (0 : Int32))
set_option maxRecDepth 65536 in
set_option maxHeartbeats 40000000 in
theorem rm_AbstractStringBuilder_putStringAt_0 (l : Launch) (Z : State) (a0 : Array Value) (hw : ∀ d ∈ tables_1, d.before a0 Z = true) (ws : List Jvm.Cond) (b86 : Addr) (n134 : Int32) (b6_57 : Addr) (cs : Int32) (b92_112_119 : Addr) (b13_41_49_57 : Addr) (kb13_41_49_57 : ClassId) (n125 : Int32) (l126 : List Value) (k92_112_119 : ClassId) (l138 : List Value) (h0 : Heap) (n0 : Nat) (Z0 : n0 ≤ h0.size) (Z_S_COMPACT_STRINGS : Sta Z Z.heap xs25 xs28 "Z" (.int cs)) (O0 : Old Z n0 h0) (hcs : ¬ cs = (0 : Int32)) (F_coder_b86 : Fld Z h0 b86 xs10 "coder" "B" (.int (0 : Int32))) (E_b6_57 : Exa Z h0 b6_57 xs25) (F_coder_b6_57 : Fld Z h0 b6_57 xs25 "coder" "B" (.int (0 : Int32))) (E_b86 : Exa Z h0 b86 xs14) (F_value_b86 : Fld Z h0 b86 xs10 "value" "[B" (.ref b92_112_119)) (F_value_b6_57 : Fld Z h0 b6_57 xs25 "value" "[B" (.ref b13_41_49_57)) (V_b13_41_49_57 : Arv Z h0 b13_41_49_57 kb13_41_49_57 .byte n125 l126 (.int (0 : Int32))) (V_b92_112_119 : Arv Z h0 b92_112_119 k92_112_119 .byte (16 : Int32) l138 (.int (0 : Int32))) (g_b92_112_119 : n0 ≤ b92_112_119) (d_169 : ¬ (n134 <<< ((0 : Int32) &&& 31)) < (0 : Int32)) (d_170 : ¬ n125 < (0 : Int32)) (d_171 : ((0 : Int32)).toNatClampNeg + (n125).toNatClampNeg ≤ (n125).toNatClampNeg) (d_172 : ((n134 <<< ((0 : Int32) &&& 31))).toNatClampNeg + (n125).toNatClampNeg ≤ ((16 : Int32)).toNatClampNeg) (d_173 : ((n134 <<< ((0 : Int32) &&& 31))).toNatClampNeg + (n125).toNatClampNeg ≤ (l138 : List Value).length) :
    MetFree l xm6 (head1 (Jvm.Cond.code xm6 jdk_68_method_73_code 3 none :: ws) xr16) (fun a U => a = #[(.ref b86), (.int n134), (.ref b6_57)] ∧ Z.Warmed39 U.vm ∧ U.heap = h0) (fun _ _ _ _ _ => True) (fun _ U o U' => ∃ v L, o = .returned v ∧ Q_AbstractStringBuilder_putStringAt_0 Z b86 n134 b6_57 cs b92_112_119 b13_41_49_57 kb13_41_49_57 n125 l126 k92_112_119 l138 h0 n0 v U'.heap L ∧ FrameEnd U o U' L xr16.cells xr16.slots) := by
  refine MetFree.of_bodySF (plainFor_of_name pn_5) hisR ?_
  intro p e s m args below meth c s₁ Bd hml0 hP hK
  obtain ⟨rfl, hZ, hh⟩ := hP
  have hx := Bd.exec
  have hby := Bd.bytes
  have hlk : meth.locks = false := BodyLoose.notSynchronized Bd
  have hml : c.maxLocals = 3 := hml0
  have hown : s.vm.findClass xs10 = some m.cls := findClass_of_methodNamed Bd.named
  have hnm := (name_of_methodNamed Bd.named Bd.method).1
  have X0 : Stand p l e xr16 s m #[(.ref b86), (.int n134), (.ref b6_57)] below meth c s₁ [] 0 0 := Stand.of_body Bd
  have e0 : s₁.heap = h0 := by rw [← hh, Bd.state]; rfl
  have N0 := Fr.nil n0
  show Go p e below s (Q_AbstractStringBuilder_putStringAt_0 Z b86 n134 b6_57 cs b92_112_119 b13_41_49_57 kb13_41_49_57 n125 l126 k92_112_119 l138 h0 n0) xr16.cells xr16.slots s₁ (entryFrame m #[(.ref b86), (.int n134), (.ref b6_57)] 3)
  refine Go.cast (ef_AbstractStringBuilder_putStringAt_0 m b86 n134 b6_57) ?_
  show Go p e below s _ _ _ s₁ (mkF m 0 #[.val (.ref b86), .val (.int n134), .val (.ref b6_57)] [])
  refine Go.step (fun _ k => XS.aloadN X0.here hx rfl (hb hby d15_0) rfl rfl (XS.aloadN X0.here hx rfl (hb hby d15_1) rfl rfl k)) ?_
  show Go p e below s _ _ _ s₁ (mkF m 2 #[.val (.ref b86), .val (.int n134), .val (.ref b6_57)] [(.ref b6_57), (.ref b86)])
  obtain ⟨cq150, q150, q150'⟩ := E_b86.cell
  obtain ⟨_, _, ⟨T150, L150, k150, n150⟩, -, X150, ⟨Lc150, hQ150, l150, y150, z150⟩, st150⟩ := X0.privateBack hx (y := xm33) hown (mvT hZ (tw98 hw)) (mvT hZ (tw99 hw)) (own_selQ (mvT hZ (tw101 hw)) (Cond.privateMethod_at (mvP hZ (tw100 hw) (args := #[]))) (mvT hZ (tw99 hw)) (by decide)) (Cond.privateMethod_at (mvP hZ (tw100 hw) (args := #[]))) (mvT hZ (tw102 hw)) (by decide) (backOf (W := 0) (rm_AbstractStringBuilder_inflateIfNeededFor_0 l Z a0 hw [] b86 b6_57 cs h0 n0 Z0 Z_S_COMPACT_STRINGS O0 hcs F_coder_b86 E_b6_57 F_coder_b6_57) hZ (tw102 hw) (tw57 hw) (by decide) (by decide)) (g := (mkF m 2 #[.val (.ref b86), .val (.int n134), .val (.ref b6_57)] [(.ref b6_57), (.ref b86)])) rfl (by rw [hml]; rfl) (Steps.refl _) (a := b86) (by rw [e0]; exact q150) q150' (argsL := [(.ref b6_57)]) (rest := []) (lenOf pd_9 rfl) rfl (by show 2 * 0 + _ ≤ _; exact Nat.le_of_eq rfl) (hb hby d15_2) (fun _ _ => ⟨rfl, e0, (by decide : 0 + 0 ≤ _), (by decide : 0 + 0 ≤ _)⟩)
  dsimp only [Pt.U, Pt.locs, Pt.cells, Pt.slots] at X150 l150 y150 z150 st150 hQ150
  subst l150 y150 z150
  obtain ⟨rfl, N150q, eq150⟩ := hQ150
  have N151 := Fr.app N0 N150q
  refine Go.step (fun _ k => st150.trans (XS.aloadN X150.here hx rfl (hb hby d15_5) rfl rfl (XS.aloadN X150.here hx rfl (hb hby d15_6) rfl rfl k))) ?_
  show Go p e below s _ _ _ T150 (mkF m 7 #[.val (.ref b86), .val (.int n134), .val (.ref b6_57)] [(.ref b86), (.ref b6_57)])
  obtain ⟨T152, X152, e152, st152⟩ := getF X150 hx hZ hown (host := "") (Or.inl (tw61 hw)) Via.refl eq150 F_value_b86 (g := (mkF m 7 #[.val (.ref b86), .val (.int n134), .val (.ref b6_57)] [(.ref b86), (.ref b6_57)])) rfl rfl (hb hby d15_7)
  refine Go.step (fun _ k => st152 _ (XS.iloadN X152.here hx rfl (hb hby d15_10) rfl (XS.aloadN X152.here hx rfl (hb hby d15_11) rfl rfl k))) ?_
  show Go p e below s _ _ _ T152 (mkF m 12 #[.val (.ref b86), .val (.int n134), .val (.ref b6_57)] [(.ref b86), (.int n134), (.ref b92_112_119), (.ref b6_57)])
  obtain ⟨T153, X153, e153, st153⟩ := getF X152 hx hZ hown (host := "") (Or.inl (tw63 hw)) Via.refl e152 F_coder_b86 (g := (mkF m 12 #[.val (.ref b86), .val (.int n134), .val (.ref b6_57)] [(.ref b86), (.int n134), (.ref b92_112_119), (.ref b6_57)])) rfl rfl (hb hby d15_12)
  refine Go.step (fun _ k => st153 _ k) ?_
  show Go p e below s _ _ _ T153 (mkF m 15 #[.val (.ref b86), .val (.int n134), .val (.ref b6_57)] [(.int (0 : Int32)), (.int n134), (.ref b92_112_119), (.ref b6_57)])
  obtain ⟨cq174, kq174, q174a, q174b, q174c⟩ := isOf hZ e153 E_b6_57
  obtain ⟨_, _, ⟨T174, L174, k174, n174⟩, -, X174, ⟨Lc174, hQ174, l174, y174, z174⟩, st174⟩ := X153.virtualBack hx (y := xm5) (z := xm5) hown (mvT hZ (tw104 hw)) (mvT hZ (tw105 hw)) (notFace_of_selects (args := #[]) (mvT hZ (tw107 hw))) (mvT hZ (tw107 hw)) (mvT hZ (tw106 hw)) (by decide) (backOf (W := 0) (rm_String_getBytes_0 l Z a0 hw [] b6_57 b92_112_119 n134 cs b13_41_49_57 kb13_41_49_57 n125 l126 k92_112_119 l138 h0 n0 Z0 E_b6_57 F_coder_b6_57 Z_S_COMPACT_STRINGS O0 hcs F_value_b6_57 V_b13_41_49_57 V_b92_112_119 g_b92_112_119 d_169 d_170 d_171 d_172 d_173) hZ (tw108 hw) (tw6 hw) (by decide) (by decide)) q174a q174c (g := (mkF m 15 #[.val (.ref b86), .val (.int n134), .val (.ref b6_57)] [(.int (0 : Int32)), (.int n134), (.ref b92_112_119), (.ref b6_57)])) rfl (by rw [hml]; rfl) (Steps.refl _) (argsL := [(.ref b92_112_119), (.int n134), (.int (0 : Int32))]) (rest := []) (lenOf pd_10 rfl) rfl (by show 2 * 0 + _ ≤ _; exact Nat.le_of_eq rfl) (hb hby d15_15) (fun _ _ => ⟨rfl, e153, (by decide : 0 + 0 ≤ _), (by decide : 0 + 0 ≤ _)⟩)
  dsimp only [Pt.U, Pt.locs, Pt.cells, Pt.slots] at X174 l174 y174 z174 st174 hQ174
  subst l174 y174 z174
  obtain ⟨rfl, N174q, K174, P174_0⟩ := hQ174
  have N175 := Fr.app N151 N174q
  refine Go.step (fun _ k => st174.trans k) ?_
  show Go p e below s _ _ _ T174 (mkF m 18 #[.val (.ref b86), .val (.int n134), .val (.ref b6_57)] [])
  have f176 := ((Keep.refl h0 [b92_112_119]).trans K174 (allS (Or.inl (List.mem_of_getElem? (i := 0) rfl)) all0))
  have f177 := (Nat.le_trans (Nat.le_refl _) K174.1)
  exact Go.retV X174 hx hlk Bd.returns (hb hby d15_18) rfl ⟨rfl, N175, f176, P174_0⟩ (by decide) (by decide)

theorem ef_AbstractStringBuilder_append_0 (m : MethodId) (x0 : Addr) (x1 : Addr) : entryFrame m #[(.ref x0), (.ref x1)] 3 = mkF m 0 #[.val (.ref x0), .val (.ref x1), .unset] [] := by first | (simp [entryFrame, mkF, argsToLocals, Value.category]; done) | rfl
def Q_AbstractStringBuilder_append_0 (Z : State) (b86 : Addr) (b6_57 : Addr) (b13_41_49_57 : Addr) (kb13_41_49_57 : ClassId) (n125 : Int32) (l126 : List Value) (cs : Int32) (n134 : Int32) (b92_112_119 : Addr) (k92_112_119 : ClassId) (l138 : List Value) (h0 : Heap) (n0 : Nat) (v : Option Value) (h : Heap) (L : List Loc) : Prop := v = some (.ref b86) ∧ Fr n0 L ∧ Keep h0 h [b92_112_119, b86] ∧ Arv Z h b92_112_119 k92_112_119 .byte (16 : Int32) (own_cp l138 (n134 <<< ((0 : Int32) &&& 31)) l126 (0 : Int32) n125 (.int (0 : Int32))) (.int (0 : Int32)) ∧ Fld Z h b86 xs10 "count" "I" (.int (n134 + (n125 >>> ((0 : Int32) &&& 31)))) ∧ Fld Z h b86 xs10 "value" "[B" (.ref b92_112_119) ∧ Fld Z h b86 xs10 "coder" "B" (.int (0 : Int32))
set_option maxRecDepth 65536 in
set_option maxHeartbeats 40000000 in
theorem rm_AbstractStringBuilder_append_0 (l : Launch) (Z : State) (a0 : Array Value) (hw : ∀ d ∈ tables_1, d.before a0 Z = true) (ws : List Jvm.Cond) (b86 : Addr) (b6_57 : Addr) (b13_41_49_57 : Addr) (kb13_41_49_57 : ClassId) (n125 : Int32) (l126 : List Value) (cs : Int32) (n134 : Int32) (b92_112_119 : Addr) (k92_112_119 : ClassId) (l138 : List Value) (h0 : Heap) (n0 : Nat) (Z0 : n0 ≤ h0.size) (E_b6_57 : Exa Z h0 b6_57 xs25) (F_value_b6_57 : Fld Z h0 b6_57 xs25 "value" "[B" (.ref b13_41_49_57)) (V_b13_41_49_57 : Arv Z h0 b13_41_49_57 kb13_41_49_57 .byte n125 l126 (.int (0 : Int32))) (Z_S_COMPACT_STRINGS : Sta Z Z.heap xs25 xs28 "Z" (.int cs)) (O0 : Old Z n0 h0) (hcs : ¬ cs = (0 : Int32)) (F_coder_b6_57 : Fld Z h0 b6_57 xs25 "coder" "B" (.int (0 : Int32))) (F_count_b86 : Fld Z h0 b86 xs10 "count" "I" (.int n134)) (F_value_b86 : Fld Z h0 b86 xs10 "value" "[B" (.ref b92_112_119)) (V_b92_112_119 : Arv Z h0 b92_112_119 k92_112_119 .byte (16 : Int32) l138 (.int (0 : Int32))) (F_coder_b86 : Fld Z h0 b86 xs10 "coder" "B" (.int (0 : Int32))) (d_142 : ¬ (0 : Int32) < ((n134 + (n125 >>> ((0 : Int32) &&& 31))) - (16 : Int32))) (E_b86 : Exa Z h0 b86 xs14) (g_b92_112_119 : n0 ≤ b92_112_119) (d_178 : ¬ (n134 <<< ((0 : Int32) &&& 31)) < (0 : Int32)) (d_179 : ¬ n125 < (0 : Int32)) (d_180 : ((0 : Int32)).toNatClampNeg + (n125).toNatClampNeg ≤ (n125).toNatClampNeg) (d_181 : ((n134 <<< ((0 : Int32) &&& 31))).toNatClampNeg + (n125).toNatClampNeg ≤ ((16 : Int32)).toNatClampNeg) (d_182 : ((n134 <<< ((0 : Int32) &&& 31))).toNatClampNeg + (n125).toNatClampNeg ≤ (l138 : List Value).length) (ne_b86_b92_112_119 : b86 ≠ b92_112_119) (g_b86 : n0 ≤ b86) :
    MetFree l xm28 (head1 (Jvm.Cond.code xm28 jdk_68_method_22_code 3 (some (.object xs10)) :: ws) xr17) (fun a U => a = #[(.ref b86), (.ref b6_57)] ∧ Z.Warmed39 U.vm ∧ U.heap = h0) (fun _ _ _ _ _ => True) (fun _ U o U' => ∃ v L, o = .returned v ∧ Q_AbstractStringBuilder_append_0 Z b86 b6_57 b13_41_49_57 kb13_41_49_57 n125 l126 cs n134 b92_112_119 k92_112_119 l138 h0 n0 v U'.heap L ∧ FrameEnd U o U' L xr17.cells xr17.slots) := by
  refine MetFree.of_bodySF (plainFor_of_name pn_5) hisR ?_
  intro p e s m args below meth c s₁ Bd hml0 hP hK
  obtain ⟨rfl, hZ, hh⟩ := hP
  have hx := Bd.exec
  have hby := Bd.bytes
  have hlk : meth.locks = false := BodyLoose.notSynchronized Bd
  have hml : c.maxLocals = 3 := hml0
  have hown : s.vm.findClass xs10 = some m.cls := findClass_of_methodNamed Bd.named
  have hnm := (name_of_methodNamed Bd.named Bd.method).1
  have X0 : Stand p l e xr17 s m #[(.ref b86), (.ref b6_57)] below meth c s₁ [] 0 0 := Stand.of_body Bd
  have e0 : s₁.heap = h0 := by rw [← hh, Bd.state]; rfl
  have N0 := Fr.nil n0
  show Go p e below s (Q_AbstractStringBuilder_append_0 Z b86 b6_57 b13_41_49_57 kb13_41_49_57 n125 l126 cs n134 b92_112_119 k92_112_119 l138 h0 n0) xr17.cells xr17.slots s₁ (entryFrame m #[(.ref b86), (.ref b6_57)] 3)
  refine Go.cast (ef_AbstractStringBuilder_append_0 m b86 b6_57) ?_
  show Go p e below s _ _ _ s₁ (mkF m 0 #[.val (.ref b86), .val (.ref b6_57), .unset] [])
  refine Go.step (fun _ k => XS.aloadN X0.here hx rfl (hb hby d11_0) rfl rfl (XS.ifnonnullYes X0.here hx rfl (pc0 := 1) (pc' := 9) rfl (hb hby d11_1) rfl (by decide) (by decide) (XS.aloadN X0.here hx rfl (hb hby d11_9) rfl rfl k))) ?_
  show Go p e below s _ _ _ s₁ (mkF m 10 #[.val (.ref b86), .val (.ref b6_57), .unset] [(.ref b6_57)])
  obtain ⟨cq132, kq132, q132a, q132b, q132c⟩ := isOf hZ e0 E_b6_57
  obtain ⟨_, _, ⟨T132, L132, k132, n132⟩, -, X132, ⟨Lc132, hQ132, l132, y132, z132⟩, st132⟩ := X0.virtualBack hx (y := xm19) (z := xm19) hown (mvT hZ (tw75 hw)) (mvT hZ (tw76 hw)) (notFace_of_selects (args := #[]) (mvT hZ (tw78 hw))) (mvT hZ (tw78 hw)) (mvT hZ (tw77 hw)) (by decide) (backOf (W := 0) (rm_String_length_0 l Z a0 hw [] b6_57 b13_41_49_57 kb13_41_49_57 n125 l126 cs h0 n0 Z0 F_value_b6_57 V_b13_41_49_57 E_b6_57 Z_S_COMPACT_STRINGS O0 hcs F_coder_b6_57) hZ (tw79 hw) (tw6 hw) (by decide) (by decide)) q132a q132c (g := (mkF m 10 #[.val (.ref b86), .val (.ref b6_57), .unset] [(.ref b6_57)])) rfl (by rw [hml]; rfl) (Steps.refl _) (argsL := []) (rest := []) (lenOf pd_8 rfl) rfl (by show 2 * 0 + _ ≤ _; exact Nat.le_of_eq rfl) (hb hby d11_10) (fun _ _ => ⟨rfl, e0, (by decide : 0 + 0 ≤ _), (by decide : 0 + 0 ≤ _)⟩)
  dsimp only [Pt.U, Pt.locs, Pt.cells, Pt.slots] at X132 l132 y132 z132 st132 hQ132
  subst l132 y132 z132
  obtain ⟨rfl, N132q, eq132⟩ := hQ132
  have N133 := Fr.app N0 N132q
  refine Go.step (fun _ k => st132.trans (XS.istoreN X132.here hx rfl (hb hby d11_13) rfl (l' := #[.val (.ref b86), .val (.ref b6_57), .val (.int (n125 >>> ((0 : Int32) &&& 31)))]) rfl (XS.aloadN X132.here hx rfl (hb hby d11_14) rfl rfl (XS.aloadN X132.here hx rfl (hb hby d11_15) rfl rfl k)))) ?_
  show Go p e below s _ _ _ T132 (mkF m 16 #[.val (.ref b86), .val (.ref b6_57), .val (.int (n125 >>> ((0 : Int32) &&& 31)))] [(.ref b86), (.ref b86)])
  obtain ⟨T135, X135, e135, st135⟩ := getF X132 hx hZ hown (host := "") (Or.inl (tw86 hw)) Via.refl eq132 F_count_b86 (g := (mkF m 16 #[.val (.ref b86), .val (.ref b6_57), .val (.int (n125 >>> ((0 : Int32) &&& 31)))] [(.ref b86), (.ref b86)])) rfl rfl (hb hby d11_16)
  refine Go.step (fun _ k => st135 _ (XS.iloadN X135.here hx rfl (hb hby d11_19) rfl (XS.iadd X135.here hx rfl (hb hby d11_20) rfl k))) ?_
  show Go p e below s _ _ _ T135 (mkF m 21 #[.val (.ref b86), .val (.ref b6_57), .val (.int (n125 >>> ((0 : Int32) &&& 31)))] [(.int (n134 + (n125 >>> ((0 : Int32) &&& 31)))), (.ref b86)])
  obtain ⟨cq143, q143, q143'⟩ := E_b86.cell
  obtain ⟨_, _, ⟨T143, L143, k143, n143⟩, -, X143, ⟨Lc143, hQ143, l143, y143, z143⟩, st143⟩ := X135.privateBack hx (y := xm32) hown (mvT hZ (tw88 hw)) (mvT hZ (tw89 hw)) (own_selQ (mvT hZ (tw91 hw)) (Cond.privateMethod_at (mvP hZ (tw90 hw) (args := #[]))) (mvT hZ (tw89 hw)) (by decide)) (Cond.privateMethod_at (mvP hZ (tw90 hw) (args := #[]))) (mvT hZ (tw92 hw)) (by decide) (backOf (W := 0) (rm_AbstractStringBuilder_ensureCapacityInternal_0 l Z a0 hw [] b86 (n134 + (n125 >>> ((0 : Int32) &&& 31))) b92_112_119 k92_112_119 l138 h0 n0 Z0 F_value_b86 V_b92_112_119 F_coder_b86 d_142) hZ (tw92 hw) (tw57 hw) (by decide) (by decide)) (g := (mkF m 21 #[.val (.ref b86), .val (.ref b6_57), .val (.int (n125 >>> ((0 : Int32) &&& 31)))] [(.int (n134 + (n125 >>> ((0 : Int32) &&& 31)))), (.ref b86)])) rfl (by rw [hml]; rfl) (Steps.refl _) (a := b86) (by rw [e135]; exact q143) q143' (argsL := [(.int (n134 + (n125 >>> ((0 : Int32) &&& 31))))]) (rest := []) (lenOf pd_6 rfl) rfl (by show 2 * 0 + _ ≤ _; exact Nat.le_of_eq rfl) (hb hby d11_21) (fun _ _ => ⟨rfl, e135, (by decide : 0 + 0 ≤ _), (by decide : 0 + 0 ≤ _)⟩)
  dsimp only [Pt.U, Pt.locs, Pt.cells, Pt.slots] at X143 l143 y143 z143 st143 hQ143
  subst l143 y143 z143
  obtain ⟨rfl, N143q, eq143⟩ := hQ143
  have N144 := Fr.app N133 N143q
  refine Go.step (fun _ k => st143.trans (XS.aloadN X143.here hx rfl (hb hby d11_24) rfl rfl (XS.aloadN X143.here hx rfl (hb hby d11_25) rfl rfl k))) ?_
  show Go p e below s _ _ _ T143 (mkF m 26 #[.val (.ref b86), .val (.ref b6_57), .val (.int (n125 >>> ((0 : Int32) &&& 31)))] [(.ref b86), (.ref b86)])
  obtain ⟨T145, X145, e145, st145⟩ := getF X143 hx hZ hown (host := "") (Or.inl (tw86 hw)) Via.refl eq143 F_count_b86 (g := (mkF m 26 #[.val (.ref b86), .val (.ref b6_57), .val (.int (n125 >>> ((0 : Int32) &&& 31)))] [(.ref b86), (.ref b86)])) rfl rfl (hb hby d11_26)
  refine Go.step (fun _ k => st145 _ (XS.aloadN X145.here hx rfl (hb hby d11_29) rfl rfl k)) ?_
  show Go p e below s _ _ _ T145 (mkF m 30 #[.val (.ref b86), .val (.ref b6_57), .val (.int (n125 >>> ((0 : Int32) &&& 31)))] [(.ref b6_57), (.int n134), (.ref b86)])
  obtain ⟨cq183, q183, q183'⟩ := E_b86.cell
  obtain ⟨_, _, ⟨T183, L183, k183, n183⟩, -, X183, ⟨Lc183, hQ183, l183, y183, z183⟩, st183⟩ := X145.privateBack hx (y := xm6) hown (mvT hZ (tw93 hw)) (mvT hZ (tw94 hw)) (own_selQ (mvT hZ (tw96 hw)) (Cond.privateMethod_at (mvP hZ (tw95 hw) (args := #[]))) (mvT hZ (tw94 hw)) (by decide)) (Cond.privateMethod_at (mvP hZ (tw95 hw) (args := #[]))) (mvT hZ (tw97 hw)) (by decide) (backOf (W := 0) (rm_AbstractStringBuilder_putStringAt_0 l Z a0 hw [] b86 n134 b6_57 cs b92_112_119 b13_41_49_57 kb13_41_49_57 n125 l126 k92_112_119 l138 h0 n0 Z0 Z_S_COMPACT_STRINGS O0 hcs F_coder_b86 E_b6_57 F_coder_b6_57 E_b86 F_value_b86 F_value_b6_57 V_b13_41_49_57 V_b92_112_119 g_b92_112_119 d_178 d_179 d_180 d_181 d_182) hZ (tw97 hw) (tw57 hw) (by decide) (by decide)) (g := (mkF m 30 #[.val (.ref b86), .val (.ref b6_57), .val (.int (n125 >>> ((0 : Int32) &&& 31)))] [(.ref b6_57), (.int n134), (.ref b86)])) rfl (by rw [hml]; rfl) (Steps.refl _) (a := b86) (by rw [e145]; exact q183) q183' (argsL := [(.int n134), (.ref b6_57)]) (rest := []) (lenOf pd_11 rfl) rfl (by show 2 * 0 + _ ≤ _; exact Nat.le_of_eq rfl) (hb hby d11_30) (fun _ _ => ⟨rfl, e145, (by decide : 0 + 0 ≤ _), (by decide : 0 + 0 ≤ _)⟩)
  dsimp only [Pt.U, Pt.locs, Pt.cells, Pt.slots] at X183 l183 y183 z183 st183 hQ183
  subst l183 y183 z183
  obtain ⟨rfl, N183q, K183, P183_0⟩ := hQ183
  have N184 := Fr.app N144 N183q
  refine Go.step (fun _ k => st183.trans (XS.aloadN X183.here hx rfl (hb hby d11_33) rfl rfl (XS.dup X183.here hx rfl (hb hby d11_34) rfl rfl k))) ?_
  show Go p e below s _ _ _ T183 (mkF m 35 #[.val (.ref b86), .val (.ref b6_57), .val (.int (n125 >>> ((0 : Int32) &&& 31)))] [(.ref b86), (.ref b86)])
  have f186 := (F_count_b86.keep K183 (ninS ne_b86_b92_112_119 nin0))
  obtain ⟨T187, X187, e187, st187⟩ := getF X183 hx hZ hown (host := "") (Or.inl (tw86 hw)) Via.refl rfl f186 (g := (mkF m 35 #[.val (.ref b86), .val (.ref b6_57), .val (.int (n125 >>> ((0 : Int32) &&& 31)))] [(.ref b86), (.ref b86)])) rfl rfl (hb hby d11_35)
  refine Go.step (fun _ k => st187 _ (XS.iloadN X187.here hx rfl (hb hby d11_38) rfl (XS.iadd X187.here hx rfl (hb hby d11_39) rfl k))) ?_
  show Go p e below s _ _ _ T187 (mkF m 40 #[.val (.ref b86), .val (.ref b6_57), .val (.int (n125 >>> ((0 : Int32) &&& 31)))] [(.int (n134 + (n125 >>> ((0 : Int32) &&& 31)))), (.ref b86)])
  have f188 := (E_b86.keep K183)
  obtain ⟨T189, h189, X189, e189, W189, st189⟩ := putF X187 hx hZ hown (host := "") (Or.inl (tw86 hw)) Via.refl e187 f186 f188 (Or.inl (tw87 hw)) (tw48 hw) (ty := .int) (by decide) rfl rfl (g := (mkF m 40 #[.val (.ref b86), .val (.ref b6_57), .val (.int (n125 >>> ((0 : Int32) &&& 31)))] [(.int (n134 + (n125 >>> ((0 : Int32) &&& 31)))), (.ref b86)])) rfl rfl (hb hby d11_40)
  have f190 := f186.same W189
  have N191 := Fr.snoc X189 N184 g_b86
  refine Go.step (fun _ k => st189 _ (XS.aloadN X189.here hx rfl (hb hby d11_43) rfl rfl k)) ?_
  show Go p e below s _ _ _ T189 (mkF m 44 #[.val (.ref b86), .val (.ref b6_57), .val (.int (n125 >>> ((0 : Int32) &&& 31)))] [(.ref b86)])
  have f192 := (((Keep.refl h0 [b92_112_119, b86]).trans K183 (allS (Or.inl (List.mem_of_getElem? (i := 0) rfl)) all0)).wr W189 (Or.inl (List.mem_of_getElem? (i := 1) rfl)))
  have f193 := (P183_0.other W189 (Ne.symm ne_b86_b92_112_119))
  have f194 := ((F_value_b86.keep K183 (ninS ne_b86_b92_112_119 nin0)).other W189 (Or.inr (slot_ne (Or.inl (tw62 hw)) (Or.inl (tw87 hw)) (by decide) (t := (.array .byte)) (t' := .int) (by decide) (by decide))))
  have f195 := ((F_coder_b86.keep K183 (ninS ne_b86_b92_112_119 nin0)).other W189 (Or.inr (slot_ne (Or.inl (tw64 hw)) (Or.inl (tw87 hw)) (by decide) (t := .byte) (t' := .int) (by decide) (by decide))))
  have f196 := (Nat.le_trans (Nat.le_trans (Nat.le_refl _) K183.1) (Keep.of_wr W189).1)
  exact Go.retA X189 hx hlk Bd.returns rfl rfl (hb hby d11_44) e189 ⟨rfl, N191, f192, f193, f190, f194, f195⟩ (by decide) (by decide)

theorem ef_StringBuilder_append_0 (m : MethodId) (x0 : Addr) (x1 : Addr) : entryFrame m #[(.ref x0), (.ref x1)] 2 = mkF m 0 #[.val (.ref x0), .val (.ref x1)] [] := by first | (simp [entryFrame, mkF, argsToLocals, Value.category]; done) | rfl
def Q_StringBuilder_append_0 (Z : State) (b86 : Addr) (b6_57 : Addr) (b13_41_49_57 : Addr) (kb13_41_49_57 : ClassId) (n125 : Int32) (l126 : List Value) (cs : Int32) (n134 : Int32) (b92_112_119 : Addr) (k92_112_119 : ClassId) (l138 : List Value) (h0 : Heap) (n0 : Nat) (v : Option Value) (h : Heap) (L : List Loc) : Prop := v = some (.ref b86) ∧ Fr n0 L ∧ Keep h0 h [b92_112_119, b86] ∧ Arv Z h b92_112_119 k92_112_119 .byte (16 : Int32) (own_cp l138 (n134 <<< ((0 : Int32) &&& 31)) l126 (0 : Int32) n125 (.int (0 : Int32))) (.int (0 : Int32)) ∧ Fld Z h b86 xs10 "count" "I" (.int (n134 + (n125 >>> ((0 : Int32) &&& 31)))) ∧ Fld Z h b86 xs10 "value" "[B" (.ref b92_112_119) ∧ Fld Z h b86 xs10 "coder" "B" (.int (0 : Int32))
set_option maxRecDepth 65536 in
set_option maxHeartbeats 40000000 in
theorem rm_StringBuilder_append_0 (l : Launch) (Z : State) (a0 : Array Value) (hw : ∀ d ∈ tables_1, d.before a0 Z = true) (ws : List Jvm.Cond) (b86 : Addr) (b6_57 : Addr) (b13_41_49_57 : Addr) (kb13_41_49_57 : ClassId) (n125 : Int32) (l126 : List Value) (cs : Int32) (n134 : Int32) (b92_112_119 : Addr) (k92_112_119 : ClassId) (l138 : List Value) (h0 : Heap) (n0 : Nat) (Z0 : n0 ≤ h0.size) (E_b6_57 : Exa Z h0 b6_57 xs25) (F_value_b6_57 : Fld Z h0 b6_57 xs25 "value" "[B" (.ref b13_41_49_57)) (V_b13_41_49_57 : Arv Z h0 b13_41_49_57 kb13_41_49_57 .byte n125 l126 (.int (0 : Int32))) (Z_S_COMPACT_STRINGS : Sta Z Z.heap xs25 xs28 "Z" (.int cs)) (O0 : Old Z n0 h0) (hcs : ¬ cs = (0 : Int32)) (F_coder_b6_57 : Fld Z h0 b6_57 xs25 "coder" "B" (.int (0 : Int32))) (F_count_b86 : Fld Z h0 b86 xs10 "count" "I" (.int n134)) (F_value_b86 : Fld Z h0 b86 xs10 "value" "[B" (.ref b92_112_119)) (V_b92_112_119 : Arv Z h0 b92_112_119 k92_112_119 .byte (16 : Int32) l138 (.int (0 : Int32))) (F_coder_b86 : Fld Z h0 b86 xs10 "coder" "B" (.int (0 : Int32))) (E_b86 : Exa Z h0 b86 xs14) (g_b92_112_119 : n0 ≤ b92_112_119) (ne_b86_b92_112_119 : b86 ≠ b92_112_119) (g_b86 : n0 ≤ b86) (d_197 : ¬ (0 : Int32) < ((n134 + (n125 >>> ((0 : Int32) &&& 31))) - (16 : Int32))) (d_198 : ¬ (n134 <<< ((0 : Int32) &&& 31)) < (0 : Int32)) (d_199 : ¬ n125 < (0 : Int32)) (d_200 : ((0 : Int32)).toNatClampNeg + (n125).toNatClampNeg ≤ (n125).toNatClampNeg) (d_201 : ((n134 <<< ((0 : Int32) &&& 31))).toNatClampNeg + (n125).toNatClampNeg ≤ ((16 : Int32)).toNatClampNeg) (d_202 : ((n134 <<< ((0 : Int32) &&& 31))).toNatClampNeg + (n125).toNatClampNeg ≤ (l138 : List Value).length) :
    MetFree l xm29 (head1 (Jvm.Cond.code xm29 jdk_67_method_7_code 2 (some (.object xs14)) :: ws) xr18) (fun a U => a = #[(.ref b86), (.ref b6_57)] ∧ Z.Warmed39 U.vm ∧ U.heap = h0) (fun _ _ _ _ _ => True) (fun _ U o U' => ∃ v L, o = .returned v ∧ Q_StringBuilder_append_0 Z b86 b6_57 b13_41_49_57 kb13_41_49_57 n125 l126 cs n134 b92_112_119 k92_112_119 l138 h0 n0 v U'.heap L ∧ FrameEnd U o U' L xr18.cells xr18.slots) := by
  refine MetFree.of_bodySF (plainFor_of_name pn_6) hisR ?_
  intro p e s m args below meth c s₁ Bd hml0 hP hK
  obtain ⟨rfl, hZ, hh⟩ := hP
  have hx := Bd.exec
  have hby := Bd.bytes
  have hlk : meth.locks = false := BodyLoose.notSynchronized Bd
  have hml : c.maxLocals = 2 := hml0
  have hown : s.vm.findClass xs14 = some m.cls := findClass_of_methodNamed Bd.named
  have hnm := (name_of_methodNamed Bd.named Bd.method).1
  have X0 : Stand p l e xr18 s m #[(.ref b86), (.ref b6_57)] below meth c s₁ [] 0 0 := Stand.of_body Bd
  have e0 : s₁.heap = h0 := by rw [← hh, Bd.state]; rfl
  have N0 := Fr.nil n0
  show Go p e below s (Q_StringBuilder_append_0 Z b86 b6_57 b13_41_49_57 kb13_41_49_57 n125 l126 cs n134 b92_112_119 k92_112_119 l138 h0 n0) xr18.cells xr18.slots s₁ (entryFrame m #[(.ref b86), (.ref b6_57)] 2)
  refine Go.cast (ef_StringBuilder_append_0 m b86 b6_57) ?_
  show Go p e below s _ _ _ s₁ (mkF m 0 #[.val (.ref b86), .val (.ref b6_57)] [])
  refine Go.step (fun _ k => XS.aloadN X0.here hx rfl (hb hby d10_0) rfl rfl (XS.aloadN X0.here hx rfl (hb hby d10_1) rfl rfl k)) ?_
  show Go p e below s _ _ _ s₁ (mkF m 2 #[.val (.ref b86), .val (.ref b6_57)] [(.ref b6_57), (.ref b86)])
  obtain ⟨_, _, ⟨T203, L203, k203, n203⟩, -, X203, ⟨Lc203, hQ203, l203, y203, z203⟩, st203⟩ := superBack X0 hx hZ (y := xm28) hown (tw70 hw) (own_same (tw71 hw) (tw91 hw) rfl (by decide)) (tw71 hw) (tw72 hw) (by decide) (backOf (W := 0) (rm_AbstractStringBuilder_append_0 l Z a0 hw [] b86 b6_57 b13_41_49_57 kb13_41_49_57 n125 l126 cs n134 b92_112_119 k92_112_119 l138 h0 n0 Z0 E_b6_57 F_value_b6_57 V_b13_41_49_57 Z_S_COMPACT_STRINGS O0 hcs F_coder_b6_57 F_count_b86 F_value_b86 V_b92_112_119 F_coder_b86 d_197 E_b86 g_b92_112_119 d_198 d_199 d_200 d_201 d_202 ne_b86_b92_112_119 g_b86) hZ (tw74 hw) (tw57 hw) (by decide) (by decide)) e0 (Ins.self E_b86) (g := (mkF m 2 #[.val (.ref b86), .val (.ref b6_57)] [(.ref b6_57), (.ref b86)])) rfl (by rw [hml]; rfl) (tw74 hw) (argsL := [(.ref b6_57)]) (rest := []) (lenOf pd_12 rfl) rfl (by show 2 * 0 + _ ≤ _; exact Nat.le_of_eq rfl) (hb hby d10_2) (fun _ _ => ⟨rfl, e0, (by decide : 0 + 0 ≤ _), (by decide : 0 + 0 ≤ _)⟩)
  dsimp only [Pt.U, Pt.locs, Pt.cells, Pt.slots] at X203 l203 y203 z203 st203 hQ203
  subst l203 y203 z203
  obtain ⟨rfl, N203q, K203, P203_0, P203_1, P203_2, P203_3⟩ := hQ203
  have N204 := Fr.app N0 N203q
  refine Go.step (fun _ k => st203.trans (XS.pop X203.here hx rfl (hb hby d10_5) rfl rfl (XS.aloadN X203.here hx rfl (hb hby d10_6) rfl rfl k))) ?_
  show Go p e below s _ _ _ T203 (mkF m 7 #[.val (.ref b86), .val (.ref b6_57)] [(.ref b86)])
  have f205 := ((Keep.refl h0 [b92_112_119, b86]).trans K203 (allS (Or.inl (List.mem_of_getElem? (i := 0) rfl)) (allS (Or.inl (List.mem_of_getElem? (i := 1) rfl)) all0)))
  have f206 := (Nat.le_trans (Nat.le_refl _) K203.1)
  exact Go.retA X203 hx hlk Bd.returns rfl rfl (hb hby d10_7) rfl ⟨rfl, N204, f205, P203_0, P203_1, P203_2, P203_3⟩ (by decide) (by decide)

theorem ef_AbstractStringBuilder_getValue_0 (m : MethodId) (x0 : Addr) : entryFrame m #[(.ref x0)] 1 = mkF m 0 #[.val (.ref x0)] [] := by first | (simp [entryFrame, mkF, argsToLocals, Value.category]; done) | rfl
def Q_AbstractStringBuilder_getValue_0 (Z : State) (b86 : Addr) (b92_112_119 : Addr) (h0 : Heap) (n0 : Nat) (v : Option Value) (h : Heap) (L : List Loc) : Prop := v = some (.ref b92_112_119) ∧ Fr n0 L ∧ h = h0
set_option maxRecDepth 65536 in
set_option maxHeartbeats 40000000 in
theorem rm_AbstractStringBuilder_getValue_0 (l : Launch) (Z : State) (a0 : Array Value) (hw : ∀ d ∈ tables_1, d.before a0 Z = true) (ws : List Jvm.Cond) (b86 : Addr) (b92_112_119 : Addr) (h0 : Heap) (n0 : Nat) (Z0 : n0 ≤ h0.size) (F_value_b86 : Fld Z h0 b86 xs10 "value" "[B" (.ref b92_112_119)) :
    MetFree l xm7 (head1 (Jvm.Cond.code xm7 jdk_68_method_64_code 1 (some (.array .byte)) :: ws) xr31) (fun a U => a = #[(.ref b86)] ∧ Z.Warmed39 U.vm ∧ U.heap = h0) (fun _ _ _ _ _ => True) (fun _ U o U' => ∃ v L, o = .returned v ∧ Q_AbstractStringBuilder_getValue_0 Z b86 b92_112_119 h0 n0 v U'.heap L ∧ FrameEnd U o U' L xr31.cells xr31.slots) := by
  refine MetFree.of_bodySF (plainFor_of_name pn_5) hisR ?_
  intro p e s m args below meth c s₁ Bd hml0 hP hK
  obtain ⟨rfl, hZ, hh⟩ := hP
  have hx := Bd.exec
  have hby := Bd.bytes
  have hlk : meth.locks = false := BodyLoose.notSynchronized Bd
  have hml : c.maxLocals = 1 := hml0
  have hown : s.vm.findClass xs10 = some m.cls := findClass_of_methodNamed Bd.named
  have hnm := (name_of_methodNamed Bd.named Bd.method).1
  have X0 : Stand p l e xr31 s m #[(.ref b86)] below meth c s₁ [] 0 0 := Stand.of_body Bd
  have e0 : s₁.heap = h0 := by rw [← hh, Bd.state]; rfl
  have N0 := Fr.nil n0
  show Go p e below s (Q_AbstractStringBuilder_getValue_0 Z b86 b92_112_119 h0 n0) xr31.cells xr31.slots s₁ (entryFrame m #[(.ref b86)] 1)
  refine Go.cast (ef_AbstractStringBuilder_getValue_0 m b86) ?_
  show Go p e below s _ _ _ s₁ (mkF m 0 #[.val (.ref b86)] [])
  refine Go.step (fun _ k => XS.aloadN X0.here hx rfl (hb hby d21_0) rfl rfl k) ?_
  show Go p e below s _ _ _ s₁ (mkF m 1 #[.val (.ref b86)] [(.ref b86)])
  obtain ⟨T271, X271, e271, st271⟩ := getF X0 hx hZ hown (host := "") (Or.inl (tw61 hw)) Via.refl e0 F_value_b86 (g := (mkF m 1 #[.val (.ref b86)] [(.ref b86)])) rfl rfl (hb hby d21_1)
  refine Go.step (fun _ k => st271 _ k) ?_
  show Go p e below s _ _ _ T271 (mkF m 4 #[.val (.ref b86)] [(.ref b92_112_119)])
  exact Go.retA X271 hx hlk Bd.returns rfl rfl (hb hby d21_4) e271 ⟨rfl, N0, rfl⟩ (by decide) (by decide)

theorem ef_AbstractStringBuilder_length_0 (m : MethodId) (x0 : Addr) : entryFrame m #[(.ref x0)] 1 = mkF m 0 #[.val (.ref x0)] [] := by first | (simp [entryFrame, mkF, argsToLocals, Value.category]; done) | rfl
def Q_AbstractStringBuilder_length_0 (Z : State) (b86 : Addr) (n274 : Int32) (h0 : Heap) (n0 : Nat) (v : Option Value) (h : Heap) (L : List Loc) : Prop := v = some (.int n274) ∧ Fr n0 L ∧ h = h0
set_option maxRecDepth 65536 in
set_option maxHeartbeats 40000000 in
theorem rm_AbstractStringBuilder_length_0 (l : Launch) (Z : State) (a0 : Array Value) (hw : ∀ d ∈ tables_1, d.before a0 Z = true) (ws : List Jvm.Cond) (b86 : Addr) (n274 : Int32) (h0 : Heap) (n0 : Nat) (Z0 : n0 ≤ h0.size) (F_count_b86 : Fld Z h0 b86 xs10 "count" "I" (.int n274)) :
    MetFree l xm20 (head1 (Jvm.Cond.code xm20 jdk_68_method_6_code 1 (some .int) :: ws) xr31) (fun a U => a = #[(.ref b86)] ∧ Z.Warmed39 U.vm ∧ U.heap = h0) (fun _ _ _ _ _ => True) (fun _ U o U' => ∃ v L, o = .returned v ∧ Q_AbstractStringBuilder_length_0 Z b86 n274 h0 n0 v U'.heap L ∧ FrameEnd U o U' L xr31.cells xr31.slots) := by
  refine MetFree.of_bodySF (plainFor_of_name pn_5) hisR ?_
  intro p e s m args below meth c s₁ Bd hml0 hP hK
  obtain ⟨rfl, hZ, hh⟩ := hP
  have hx := Bd.exec
  have hby := Bd.bytes
  have hlk : meth.locks = false := BodyLoose.notSynchronized Bd
  have hml : c.maxLocals = 1 := hml0
  have hown : s.vm.findClass xs10 = some m.cls := findClass_of_methodNamed Bd.named
  have hnm := (name_of_methodNamed Bd.named Bd.method).1
  have X0 : Stand p l e xr31 s m #[(.ref b86)] below meth c s₁ [] 0 0 := Stand.of_body Bd
  have e0 : s₁.heap = h0 := by rw [← hh, Bd.state]; rfl
  have N0 := Fr.nil n0
  show Go p e below s (Q_AbstractStringBuilder_length_0 Z b86 n274 h0 n0) xr31.cells xr31.slots s₁ (entryFrame m #[(.ref b86)] 1)
  refine Go.cast (ef_AbstractStringBuilder_length_0 m b86) ?_
  show Go p e below s _ _ _ s₁ (mkF m 0 #[.val (.ref b86)] [])
  refine Go.step (fun _ k => XS.aloadN X0.here hx rfl (hb hby d23_0) rfl rfl k) ?_
  show Go p e below s _ _ _ s₁ (mkF m 1 #[.val (.ref b86)] [(.ref b86)])
  obtain ⟨T275, X275, e275, st275⟩ := getF X0 hx hZ hown (host := "") (Or.inl (tw86 hw)) Via.refl e0 F_count_b86 (g := (mkF m 1 #[.val (.ref b86)] [(.ref b86)])) rfl rfl (hb hby d23_1)
  refine Go.step (fun _ k => st275 _ k) ?_
  show Go p e below s _ _ _ T275 (mkF m 4 #[.val (.ref b86)] [(.int n274)])
  exact Go.retI X275 hx hlk Bd.returns (hb hby d23_4) e275 ⟨rfl, N0, rfl⟩ (by decide) (by decide)

theorem ef_StringBuilder_length_0 (m : MethodId) (x0 : Addr) : entryFrame m #[(.ref x0)] 1 = mkF m 0 #[.val (.ref x0)] [] := by first | (simp [entryFrame, mkF, argsToLocals, Value.category]; done) | rfl
def Q_StringBuilder_length_0 (Z : State) (b86 : Addr) (n274 : Int32) (h0 : Heap) (n0 : Nat) (v : Option Value) (h : Heap) (L : List Loc) : Prop := v = some (.int n274) ∧ Fr n0 L ∧ h = h0
set_option maxRecDepth 65536 in
set_option maxHeartbeats 40000000 in
theorem rm_StringBuilder_length_0 (l : Launch) (Z : State) (a0 : Array Value) (hw : ∀ d ∈ tables_1, d.before a0 Z = true) (ws : List Jvm.Cond) (b86 : Addr) (n274 : Int32) (h0 : Heap) (n0 : Nat) (Z0 : n0 ≤ h0.size) (F_count_b86 : Fld Z h0 b86 xs10 "count" "I" (.int n274)) (E_b86 : Exa Z h0 b86 xs14) :
    MetFree l xm21 (head1 (Jvm.Cond.code xm21 jdk_67_method_93_code 1 (some .int) :: ws) xr12) (fun a U => a = #[(.ref b86)] ∧ Z.Warmed39 U.vm ∧ U.heap = h0) (fun _ _ _ _ _ => True) (fun _ U o U' => ∃ v L, o = .returned v ∧ Q_StringBuilder_length_0 Z b86 n274 h0 n0 v U'.heap L ∧ FrameEnd U o U' L xr12.cells xr12.slots) := by
  refine MetFree.of_bodySF (plainFor_of_name pn_6) hisR ?_
  intro p e s m args below meth c s₁ Bd hml0 hP hK
  obtain ⟨rfl, hZ, hh⟩ := hP
  have hx := Bd.exec
  have hby := Bd.bytes
  have hlk : meth.locks = false := BodyLoose.notSynchronized Bd
  have hml : c.maxLocals = 1 := hml0
  have hown : s.vm.findClass xs14 = some m.cls := findClass_of_methodNamed Bd.named
  have hnm := (name_of_methodNamed Bd.named Bd.method).1
  have X0 : Stand p l e xr12 s m #[(.ref b86)] below meth c s₁ [] 0 0 := Stand.of_body Bd
  have e0 : s₁.heap = h0 := by rw [← hh, Bd.state]; rfl
  have N0 := Fr.nil n0
  show Go p e below s (Q_StringBuilder_length_0 Z b86 n274 h0 n0) xr12.cells xr12.slots s₁ (entryFrame m #[(.ref b86)] 1)
  refine Go.cast (ef_StringBuilder_length_0 m b86) ?_
  show Go p e below s _ _ _ s₁ (mkF m 0 #[.val (.ref b86)] [])
  refine Go.step (fun _ k => XS.aloadN X0.here hx rfl (hb hby d22_0) rfl rfl k) ?_
  show Go p e below s _ _ _ s₁ (mkF m 1 #[.val (.ref b86)] [(.ref b86)])
  obtain ⟨_, _, ⟨T276, L276, k276, n276⟩, -, X276, ⟨Lc276, hQ276, l276, y276, z276⟩, st276⟩ := superBack X0 hx hZ (y := xm20) hown (tw137 hw) (own_same (tw133 hw) (tw91 hw) rfl (by decide)) (tw133 hw) (tw72 hw) (by decide) (backOf (W := 0) (rm_AbstractStringBuilder_length_0 l Z a0 hw [] b86 n274 h0 n0 Z0 F_count_b86) hZ (tw138 hw) (tw57 hw) (by decide) (by decide)) e0 (Ins.self E_b86) (g := (mkF m 1 #[.val (.ref b86)] [(.ref b86)])) rfl (by rw [hml]; rfl) (tw138 hw) (argsL := []) (rest := []) (lenOf pd_8 rfl) rfl (by show 2 * 0 + _ ≤ _; exact Nat.le_of_eq rfl) (hb hby d22_1) (fun _ _ => ⟨rfl, e0, (by decide : 0 + 0 ≤ _), (by decide : 0 + 0 ≤ _)⟩)
  dsimp only [Pt.U, Pt.locs, Pt.cells, Pt.slots] at X276 l276 y276 z276 st276 hQ276
  subst l276 y276 z276
  obtain ⟨rfl, N276q, eq276⟩ := hQ276
  have N277 := Fr.app N0 N276q
  refine Go.step (fun _ k => st276.trans k) ?_
  show Go p e below s _ _ _ T276 (mkF m 4 #[.val (.ref b86)] [(.int n274)])
  exact Go.retI X276 hx hlk Bd.returns (hb hby d22_4) eq276 ⟨rfl, N277, rfl⟩ (by decide) (by decide)

theorem ef_AbstractStringBuilder_isLatin1_0 (m : MethodId) (x0 : Addr) : entryFrame m #[(.ref x0)] 1 = mkF m 0 #[.val (.ref x0)] [] := by first | (simp [entryFrame, mkF, argsToLocals, Value.category]; done) | rfl
def Q_AbstractStringBuilder_isLatin1_0 (Z : State) (b86 : Addr) (cs : Int32) (h0 : Heap) (n0 : Nat) (v : Option Value) (h : Heap) (L : List Loc) : Prop := v = some (.int (1 : Int32)) ∧ Fr n0 L ∧ h = h0
set_option maxRecDepth 65536 in
set_option maxHeartbeats 40000000 in
theorem rm_AbstractStringBuilder_isLatin1_0 (l : Launch) (Z : State) (a0 : Array Value) (hw : ∀ d ∈ tables_1, d.before a0 Z = true) (ws : List Jvm.Cond) (b86 : Addr) (cs : Int32) (h0 : Heap) (n0 : Nat) (Z0 : n0 ≤ h0.size) (Z_S_COMPACT_STRINGS : Sta Z Z.heap xs25 xs28 "Z" (.int cs)) (O0 : Old Z n0 h0) (hcs : ¬ cs = (0 : Int32)) (F_coder_b86 : Fld Z h0 b86 xs10 "coder" "B" (.int (0 : Int32))) :
    MetFree l xm10 (head1 (Jvm.Cond.code xm10 jdk_68_method_68_code 1 (some .boolean) :: ws) xr31) (fun a U => a = #[(.ref b86)] ∧ Z.Warmed39 U.vm ∧ U.heap = h0) (fun _ _ _ _ _ => True) (fun _ U o U' => ∃ v L, o = .returned v ∧ Q_AbstractStringBuilder_isLatin1_0 Z b86 cs h0 n0 v U'.heap L ∧ FrameEnd U o U' L xr31.cells xr31.slots) := by
  refine MetFree.of_bodySF (plainFor_of_name pn_5) hisR ?_
  intro p e s m args below meth c s₁ Bd hml0 hP hK
  obtain ⟨rfl, hZ, hh⟩ := hP
  have hx := Bd.exec
  have hby := Bd.bytes
  have hlk : meth.locks = false := BodyLoose.notSynchronized Bd
  have hml : c.maxLocals = 1 := hml0
  have hown : s.vm.findClass xs10 = some m.cls := findClass_of_methodNamed Bd.named
  have hnm := (name_of_methodNamed Bd.named Bd.method).1
  have X0 : Stand p l e xr31 s m #[(.ref b86)] below meth c s₁ [] 0 0 := Stand.of_body Bd
  have e0 : s₁.heap = h0 := by rw [← hh, Bd.state]; rfl
  have N0 := Fr.nil n0
  show Go p e below s (Q_AbstractStringBuilder_isLatin1_0 Z b86 cs h0 n0) xr31.cells xr31.slots s₁ (entryFrame m #[(.ref b86)] 1)
  refine Go.cast (ef_AbstractStringBuilder_isLatin1_0 m b86) ?_
  show Go p e below s _ _ _ s₁ (mkF m 0 #[.val (.ref b86)] [])
  obtain ⟨T280, X280, e280, st280⟩ := getS2 X0 hx hZ hown (host := "") (Or.inl (tw60 hw)) Via.refl e0 (Z_S_COMPACT_STRINGS.ext O0.2) (g := (mkF m 0 #[.val (.ref b86)] [])) rfl (hb hby d24_0)
  refine Go.step (fun _ k => st280 _ (XS.ifNo X280.here hx rfl (hb hby d24_3) rfl ((if0 _ _).trans (feq hcs).1) (XS.aloadN X280.here hx rfl (hb hby d24_6) rfl rfl k))) ?_
  show Go p e below s _ _ _ T280 (mkF m 7 #[.val (.ref b86)] [(.ref b86)])
  obtain ⟨T281, X281, e281, st281⟩ := getF X280 hx hZ hown (host := "") (Or.inl (tw63 hw)) Via.refl e280 F_coder_b86 (g := (mkF m 7 #[.val (.ref b86)] [(.ref b86)])) rfl rfl (hb hby d24_7)
  refine Go.step (fun _ k => st281 _ (XS.ifNo X281.here hx rfl (hb hby d24_10) rfl ((if0 _ _).trans (teq (by decide)).2) (XS.iconst X281.here hx rfl (hb hby d24_13) (XS.goto X281.here hx rfl (pc0 := 14) (pc' := 18) rfl (hb hby d24_14) (by decide) (by decide) k)))) ?_
  show Go p e below s _ _ _ T281 (mkF m 18 #[.val (.ref b86)] [(.int (1 : Int32))])
  exact Go.retN X281 hx hlk (t := .boolean) Bd.returns (by simp) (hb hby d24_18) e281 ⟨rfl, N0, rfl⟩ (by decide) (by decide)

theorem ef_Arrays_checkLength_0 (m : MethodId) (x0 : Int32) (x1 : Int32) : entryFrame m #[(.int x0), (.int x1)] 2 = mkF m 0 #[.val (.int x0), .val (.int x1)] [] := by first | (simp [entryFrame, mkF, argsToLocals, Value.category]; done) | rfl
def Q_Arrays_checkLength_0 (Z : State) (n274 : Int32) (h0 : Heap) (n0 : Nat) (v : Option Value) (h : Heap) (L : List Loc) : Prop := v = none ∧ Fr n0 L ∧ h = h0
set_option maxRecDepth 65536 in
set_option maxHeartbeats 40000000 in
theorem rm_Arrays_checkLength_0 (l : Launch) (Z : State) (a0 : Array Value) (hw : ∀ d ∈ tables_1, d.before a0 Z = true) (ws : List Jvm.Cond) (n274 : Int32) (h0 : Heap) (n0 : Nat) (Z0 : n0 ≤ h0.size) (d_291 : ¬ n274 < (0 : Int32)) :
    MetFree l xm2 (head1 (Jvm.Cond.code xm2 jdk_65_method_131_code 2 none :: ws) xr31) (fun a U => a = #[(.int (0 : Int32)), (.int n274)] ∧ Z.Warmed39 U.vm ∧ U.heap = h0) (fun _ _ _ _ _ => True) (fun _ U o U' => ∃ v L, o = .returned v ∧ Q_Arrays_checkLength_0 Z n274 h0 n0 v U'.heap L ∧ FrameEnd U o U' L xr31.cells xr31.slots) := by
  refine MetFree.of_bodySF (plainFor_of_name pn_7) hisR ?_
  intro p e s m args below meth c s₁ Bd hml0 hP hK
  obtain ⟨rfl, hZ, hh⟩ := hP
  have hx := Bd.exec
  have hby := Bd.bytes
  have hlk : meth.locks = false := BodyLoose.notSynchronized Bd
  have hml : c.maxLocals = 2 := hml0
  have hown : s.vm.findClass xs27 = some m.cls := findClass_of_methodNamed Bd.named
  have hnm := (name_of_methodNamed Bd.named Bd.method).1
  have X0 : Stand p l e xr31 s m #[(.int (0 : Int32)), (.int n274)] below meth c s₁ [] 0 0 := Stand.of_body Bd
  have e0 : s₁.heap = h0 := by rw [← hh, Bd.state]; rfl
  have N0 := Fr.nil n0
  show Go p e below s (Q_Arrays_checkLength_0 Z n274 h0 n0) xr31.cells xr31.slots s₁ (entryFrame m #[(.int (0 : Int32)), (.int n274)] 2)
  refine Go.cast (ef_Arrays_checkLength_0 m (0 : Int32) n274) ?_
  show Go p e below s _ _ _ s₁ (mkF m 0 #[.val (.int (0 : Int32)), .val (.int n274)] [])
  refine Go.step (fun _ k => XS.iloadN X0.here hx rfl (hb hby d27_0) rfl (XS.iloadN X0.here hx rfl (hb hby d27_1) rfl (XS.icmpYes X0.here hx rfl (pc0 := 2) (pc' := 37) rfl (hb hby d27_2) rfl (flt d_291).2.1 (by decide) (by decide) k))) ?_
  show Go p e below s _ _ _ s₁ (mkF m 37 #[.val (.int (0 : Int32)), .val (.int n274)] [])
  exact Go.retV X0 hx hlk Bd.returns (hb hby d27_37) e0 ⟨rfl, N0, rfl⟩ (by decide) (by decide)

theorem ef_Math_min_0 (m : MethodId) (x0 : Int32) (x1 : Int32) : entryFrame m #[(.int x0), (.int x1)] 2 = mkF m 0 #[.val (.int x0), .val (.int x1)] [] := by first | (simp [entryFrame, mkF, argsToLocals, Value.category]; done) | rfl
def Q_Math_min_0 (Z : State) (n302 : Int32) (n303 : Int32) (h0 : Heap) (n0 : Nat) (v : Option Value) (h : Heap) (L : List Loc) : Prop := v = some (.int n303) ∧ Fr n0 L ∧ h = h0
set_option maxRecDepth 65536 in
set_option maxHeartbeats 40000000 in
theorem rm_Math_min_0 (l : Launch) (Z : State) (a0 : Array Value) (hw : ∀ d ∈ tables_1, d.before a0 Z = true) (ws : List Jvm.Cond) (n302 : Int32) (n303 : Int32) (h0 : Heap) (n0 : Nat) (Z0 : n0 ≤ h0.size) (d_304 : n303 < n302) :
    MetFree l xm25 (head1 (Jvm.Cond.code xm25 jdk_29_method_69_code 2 (some .int) :: ws) xr31) (fun a U => a = #[(.int n302), (.int n303)] ∧ Z.Warmed39 U.vm ∧ U.heap = h0) (fun _ _ _ _ _ => True) (fun _ U o U' => ∃ v L, o = .returned v ∧ Q_Math_min_0 Z n302 n303 h0 n0 v U'.heap L ∧ FrameEnd U o U' L xr31.cells xr31.slots) := by
  refine MetFree.of_bodySF (Jvm.Free.JP.mathPlain rfl (by decide +kernel)) hisR ?_
  intro p e s m args below meth c s₁ Bd hml0 hP hK
  obtain ⟨rfl, hZ, hh⟩ := hP
  have hx := Bd.exec
  have hby := Bd.bytes
  have hlk : meth.locks = false := BodyLoose.notSynchronized Bd
  have hml : c.maxLocals = 2 := hml0
  have hown : s.vm.findClass xs30 = some m.cls := findClass_of_methodNamed Bd.named
  have hnm := (name_of_methodNamed Bd.named Bd.method).1
  have X0 : Stand p l e xr31 s m #[(.int n302), (.int n303)] below meth c s₁ [] 0 0 := Stand.of_body Bd
  have e0 : s₁.heap = h0 := by rw [← hh, Bd.state]; rfl
  have N0 := Fr.nil n0
  show Go p e below s (Q_Math_min_0 Z n302 n303 h0 n0) xr31.cells xr31.slots s₁ (entryFrame m #[(.int n302), (.int n303)] 2)
  refine Go.cast (ef_Math_min_0 m n302 n303) ?_
  show Go p e below s _ _ _ s₁ (mkF m 0 #[.val (.int n302), .val (.int n303)] [])
  refine Go.step (fun _ k => XS.iloadN X0.here hx rfl (hb hby d28_0) rfl (XS.iloadN X0.here hx rfl (hb hby d28_1) rfl (XS.icmpYes X0.here hx rfl (pc0 := 2) (pc' := 9) rfl (hb hby d28_2) rfl (tlt d_304).2.2.1 (by decide) (by decide) (XS.iloadN X0.here hx rfl (hb hby d28_9) rfl k)))) ?_
  show Go p e below s _ _ _ s₁ (mkF m 10 #[.val (.int n302), .val (.int n303)] [(.int n303)])
  exact Go.retI X0 hx hlk Bd.returns (hb hby d28_10) e0 ⟨rfl, N0, rfl⟩ (by decide) (by decide)

theorem ef_Arrays_copyOfRangeByte_0 (m : MethodId) (x0 : Addr) (x1 : Int32) (x2 : Int32) : entryFrame m #[(.ref x0), (.int x1), (.int x2)] 5 = mkF m 0 #[.val (.ref x0), .val (.int x1), .val (.int x2), .unset, .unset] [] := by first | (simp [entryFrame, mkF, argsToLocals, Value.category]; done) | rfl
def Q_Arrays_copyOfRangeByte_0 (Z : State) (b92_112_119 : Addr) (n274 : Int32) (k92_112_119 : ClassId) (l288 : List Value) (h0 : Heap) (n0 : Nat) (v : Option Value) (h : Heap) (L : List Loc) : Prop := ∃ (b297 : Addr) (k297 : ClassId), v = some (.ref b297) ∧ Fr n0 L ∧ Keep h0 h [] ∧ h0.size ≤ b297 ∧ Arv Z h b297 k297 .byte (n274 - (0 : Int32)) (own_cp (own_rep (n274 - (0 : Int32)) (.int (0 : Int32))) (0 : Int32) l288 (0 : Int32) (n274 - (0 : Int32)) (.int (0 : Int32))) (.int (0 : Int32))
set_option maxRecDepth 65536 in
set_option maxHeartbeats 40000000 in
theorem rm_Arrays_copyOfRangeByte_0 (l : Launch) (Z : State) (a0 : Array Value) (hw : ∀ d ∈ tables_1, d.before a0 Z = true) (ws : List Jvm.Cond) (b92_112_119 : Addr) (n274 : Int32) (k92_112_119 : ClassId) (l288 : List Value) (h0 : Heap) (n0 : Nat) (Z0 : n0 ≤ h0.size) (d_292 : ¬ n274 < (0 : Int32)) (d_295 : ¬ (n274 - (0 : Int32)) < (0 : Int32)) (d_296 : ((n274 - (0 : Int32))).toNatClampNeg ≤ 16) (V_b92_112_119 : Arv Z h0 b92_112_119 k92_112_119 .byte (16 : Int32) l288 (.int (0 : Int32))) (d_305 : (n274 - (0 : Int32)) < (16 : Int32)) (d_311 : ((0 : Int32)).toNatClampNeg + ((n274 - (0 : Int32))).toNatClampNeg ≤ ((16 : Int32)).toNatClampNeg) (d_312 : ((0 : Int32)).toNatClampNeg + ((n274 - (0 : Int32))).toNatClampNeg ≤ ((n274 - (0 : Int32))).toNatClampNeg) (d_313 : ((0 : Int32)).toNatClampNeg + ((n274 - (0 : Int32))).toNatClampNeg ≤ ((own_rep (n274 - (0 : Int32)) (.int (0 : Int32))) : List Value).length) :
    MetFree l xm14 (head1 (Jvm.Cond.code xm14 jdk_65_method_133_code 5 (some (.array .byte)) :: ws) xr3) (fun a U => a = #[(.ref b92_112_119), (.int (0 : Int32)), (.int n274)] ∧ Z.Warmed39 U.vm ∧ U.heap = h0) (fun _ _ _ _ _ => True) (fun _ U o U' => ∃ v L, o = .returned v ∧ Q_Arrays_copyOfRangeByte_0 Z b92_112_119 n274 k92_112_119 l288 h0 n0 v U'.heap L ∧ FrameEnd U o U' L xr3.cells xr3.slots) := by
  refine MetFree.of_bodySF (plainFor_of_name pn_7) hisR ?_
  intro p e s m args below meth c s₁ Bd hml0 hP hK
  obtain ⟨rfl, hZ, hh⟩ := hP
  have hx := Bd.exec
  have hby := Bd.bytes
  have hlk : meth.locks = false := BodyLoose.notSynchronized Bd
  have hml : c.maxLocals = 5 := hml0
  have hown : s.vm.findClass xs27 = some m.cls := findClass_of_methodNamed Bd.named
  have hnm := (name_of_methodNamed Bd.named Bd.method).1
  have X0 : Stand p l e xr3 s m #[(.ref b92_112_119), (.int (0 : Int32)), (.int n274)] below meth c s₁ [] 0 0 := Stand.of_body Bd
  have e0 : s₁.heap = h0 := by rw [← hh, Bd.state]; rfl
  have N0 := Fr.nil n0
  show Go p e below s (Q_Arrays_copyOfRangeByte_0 Z b92_112_119 n274 k92_112_119 l288 h0 n0) xr3.cells xr3.slots s₁ (entryFrame m #[(.ref b92_112_119), (.int (0 : Int32)), (.int n274)] 5)
  refine Go.cast (ef_Arrays_copyOfRangeByte_0 m b92_112_119 (0 : Int32) n274) ?_
  show Go p e below s _ _ _ s₁ (mkF m 0 #[.val (.ref b92_112_119), .val (.int (0 : Int32)), .val (.int n274), .unset, .unset] [])
  refine Go.step (fun _ k => XS.iloadN X0.here hx rfl (hb hby d26_0) rfl (XS.iloadN X0.here hx rfl (hb hby d26_1) rfl k)) ?_
  show Go p e below s _ _ _ s₁ (mkF m 2 #[.val (.ref b92_112_119), .val (.int (0 : Int32)), .val (.int n274), .unset, .unset] [(.int n274), (.int (0 : Int32))])
  obtain ⟨_, _, ⟨T293, L293, k293, n293⟩, -, X293, ⟨Lc293, hQ293, l293, y293, z293⟩, st293⟩ := Jvm.LawKit.callS X0 hx (y := xm2) hown (mvT hZ (tw151 hw)) (mvT hZ (tw152 hw)) (mvT hZ (tw146 hw)) (mvT hZ (tw153 hw)) (by decide) (backOf (W := 0) (rm_Arrays_checkLength_0 l Z a0 hw [] n274 h0 n0 Z0 d_292) hZ (tw153 hw) (tw146 hw) (by decide) (by decide)) (g := (mkF m 2 #[.val (.ref b92_112_119), .val (.int (0 : Int32)), .val (.int n274), .unset, .unset] [(.int n274), (.int (0 : Int32))])) rfl (by rw [hml]; rfl) (argsL := [(.int (0 : Int32)), (.int n274)]) (rest := []) (lenOf pd_16 rfl) rfl (by show 2 * 0 + _ ≤ _; exact Nat.le_of_eq rfl) (hb hby d26_2) (fun _ _ => ⟨rfl, e0, (by decide : 0 + 0 ≤ _), (by decide : 0 + 0 ≤ _)⟩)
  dsimp only [Pt.U, Pt.locs, Pt.cells, Pt.slots] at X293 l293 y293 z293 st293 hQ293
  subst l293 y293 z293
  obtain ⟨rfl, N293q, eq293⟩ := hQ293
  have N294 := Fr.app N0 N293q
  refine Go.step (fun _ k => st293 _ (XS.iloadN X293.here hx rfl (hb hby d26_5) rfl (XS.iloadN X293.here hx rfl (hb hby d26_6) rfl (XS.isub X293.here hx rfl (hb hby d26_7) rfl (XS.istoreN X293.here hx rfl (hb hby d26_8) rfl (l' := #[.val (.ref b92_112_119), .val (.int (0 : Int32)), .val (.int n274), .val (.int (n274 - (0 : Int32))), .unset]) rfl (XS.iloadN X293.here hx rfl (hb hby d26_9) rfl k)))))) ?_
  show Go p e below s _ _ _ T293 (mkF m 10 #[.val (.ref b92_112_119), .val (.int (0 : Int32)), .val (.int n274), .val (.int (n274 - (0 : Int32))), .unset] [(.int (n274 - (0 : Int32)))])
  obtain ⟨T297, h297, k297, X297, e297, E297, A297, st297⟩ := newP (aty := .byte) X293 hx hZ (tw19 hw) eq293 (g := (mkF m 10 #[.val (.ref b92_112_119), .val (.int (0 : Int32)), .val (.int n274), .val (.int (n274 - (0 : Int32))), .unset] [(.int (n274 - (0 : Int32)))])) rfl (hb hby d26_10) rfl d_295 (cap := 16) d_296 (by decide) (by decide) (by decide)
  obtain ⟨b297, g297⟩ : ∃ z, z = h0.size := ⟨_, rfl⟩
  rw [← g297] at A297 st297
  have f298 : Arv Z h297 b297 k297 .byte (n274 - (0 : Int32)) [] (.int (0 : Int32)) := Arv.new A297 d_295
  refine Go.step (fun _ k => st297 _ k) ?_
  have f299 : Arv Z h297 b297 k297 .byte (n274 - (0 : Int32)) (own_rep (n274 - (0 : Int32)) (.int (0 : Int32))) (.int (0 : Int32)) := Arv.pad f298 (pad_rep [] (.int (0 : Int32)) ((n274 - (0 : Int32))).toNatClampNeg)
  refine Go.step (fun _ k => XS.astore X297.here hx rfl (hb hby d26_12) rfl rfl (l' := #[.val (.ref b92_112_119), .val (.int (0 : Int32)), .val (.int n274), .val (.int (n274 - (0 : Int32))), .val (.ref b297)]) rfl (XS.aloadN X297.here hx rfl (hb hby d26_14) rfl rfl (XS.iloadN X297.here hx rfl (hb hby d26_15) rfl (XS.aload X297.here hx rfl (hb hby d26_16) rfl rfl (XS.iconst X297.here hx rfl (hb hby d26_18) (XS.aloadN X297.here hx rfl (hb hby d26_19) rfl rfl k)))))) ?_
  show Go p e below s _ _ _ T297 (mkF m 20 #[.val (.ref b92_112_119), .val (.int (0 : Int32)), .val (.int n274), .val (.int (n274 - (0 : Int32))), .val (.ref b297)] [(.ref b92_112_119), (.int (0 : Int32)), (.ref b297), (.int (0 : Int32)), (.ref b92_112_119)])
  have f300 := (V_b92_112_119.ext E297)
  obtain ⟨cl301, Ar301, -, Sz301, Ng301, -, -⟩ := id f300
  have aln301 := X297.arraylength hx (by rw [e297]; exact Ar301.1) (State.isArrayOf_alike hZ.alike Ar301.2.1) (g := (mkF m 20 #[.val (.ref b92_112_119), .val (.int (0 : Int32)), .val (.int n274), .val (.int (n274 - (0 : Int32))), .val (.ref b297)] [(.ref b92_112_119), (.int (0 : Int32)), (.ref b297), (.int (0 : Int32)), (.ref b92_112_119)])) rfl rfl (hb hby d26_20)
  rw [len_of Sz301 Ng301] at aln301
  refine Go.step (fun _ k => aln301 _ (XS.iloadN X297.here hx rfl (hb hby d26_21) rfl (XS.isub X297.here hx rfl (hb hby d26_22) rfl (XS.iloadN X297.here hx rfl (hb hby d26_23) rfl k)))) ?_
  show Go p e below s _ _ _ T297 (mkF m 24 #[.val (.ref b92_112_119), .val (.int (0 : Int32)), .val (.int n274), .val (.int (n274 - (0 : Int32))), .val (.ref b297)] [(.int (n274 - (0 : Int32))), (.int (16 : Int32)), (.int (0 : Int32)), (.ref b297), (.int (0 : Int32)), (.ref b92_112_119)])
  have f306 := (Nat.le_trans Z0 E297.1)
  obtain ⟨_, _, ⟨T307, L307, k307, n307⟩, -, X307, ⟨Lc307, hQ307, l307, y307, z307⟩, st307⟩ := Jvm.LawKit.callS X297 hx (y := xm25) hown (mvT hZ (tw154 hw)) (mvT hZ (tw155 hw)) (mvT hZ (tw156 hw)) (mvT hZ (tw157 hw)) (by decide) (backOf (W := 4) (rm_Math_min_0 l Z a0 hw [] (16 : Int32) (n274 - (0 : Int32)) h297 n0 f306 d_305) hZ (tw157 hw) (tw156 hw) (by decide) (by decide)) (g := (mkF m 24 #[.val (.ref b92_112_119), .val (.int (0 : Int32)), .val (.int n274), .val (.int (n274 - (0 : Int32))), .val (.ref b297)] [(.int (n274 - (0 : Int32))), (.int (16 : Int32)), (.int (0 : Int32)), (.ref b297), (.int (0 : Int32)), (.ref b92_112_119)])) rfl (by rw [hml]; rfl) (argsL := [(.int (16 : Int32)), (.int (n274 - (0 : Int32)))]) (rest := [(.int (0 : Int32)), (.ref b297), (.int (0 : Int32)), (.ref b92_112_119)]) (lenOf pd_17 rfl) rfl (by show 2 * 0 + _ ≤ _; exact Nat.le_of_eq rfl) (hb hby d26_24) (fun _ _ => ⟨rfl, e297, (by decide : 1 + 0 ≤ _), (by decide : 16 + 0 ≤ _)⟩)
  dsimp only [Pt.U, Pt.locs, Pt.cells, Pt.slots] at X307 l307 y307 z307 st307 hQ307
  subst l307 y307 z307
  obtain ⟨rfl, N307q, eq307⟩ := hQ307
  have N308 := Fr.app N294 N307q
  refine Go.step (fun _ k => st307 _ k) ?_
  show Go p e below s _ _ _ T307 (mkF m 27 #[.val (.ref b92_112_119), .val (.int (0 : Int32)), .val (.int n274), .val (.int (n274 - (0 : Int32))), .val (.ref b297)] [(.int (n274 - (0 : Int32))), (.int (0 : Int32)), (.ref b297), (.int (0 : Int32)), (.ref b92_112_119)])
  have g310 := Nat.le_trans Z0 (Nat.le_of_eq g297.symm)
  obtain ⟨T309, h309, L309, X309, e309, N309, K309, V309, st309⟩ := cpA X307 hx hZ hown (tw158 hw) (tw112 hw) (tw110 hw) (tw111 hw) eq307 f300 f299 (Or.inl ⟨rfl, rfl⟩) (by decide) (by decide) d_295 d_311 d_312 rfl d_313 N308 g310 (g := (mkF m 27 #[.val (.ref b92_112_119), .val (.int (0 : Int32)), .val (.int n274), .val (.int (n274 - (0 : Int32))), .val (.ref b297)] [(.int (n274 - (0 : Int32))), (.int (0 : Int32)), (.ref b297), (.int (0 : Int32)), (.ref b92_112_119)])) rfl (by rw [hml]; rfl) rfl (hb hby d26_27) (by decide) (W := 0) (by show 2 * 0 + _ ≤ _; exact Nat.le_of_eq rfl) (by decide)
  have f314 : Arv Z h309 b297 k297 .byte (n274 - (0 : Int32)) (own_cp (own_rep (n274 - (0 : Int32)) (.int (0 : Int32))) (0 : Int32) l288 (0 : Int32) (n274 - (0 : Int32)) (.int (0 : Int32))) (.int (0 : Int32)) := V309
  refine Go.step (fun _ k => st309 _ (XS.aload X309.here hx rfl (hb hby d26_30) rfl rfl k)) ?_
  show Go p e below s _ _ _ T309 (mkF m 32 #[.val (.ref b92_112_119), .val (.int (0 : Int32)), .val (.int n274), .val (.int (n274 - (0 : Int32))), .val (.ref b297)] [(.ref b297)])
  have z315 := Nat.le_trans (Nat.le_refl _) (Nat.le_of_eq g297.symm)
  have f316 := (((Keep.refl h0 []).ext E297).trans K309 (allS (Or.inr z315) all0))
  have f317 := (Nat.le_trans (Nat.le_trans (Nat.le_refl _) E297.1) K309.1)
  exact Go.retA X309 hx hlk Bd.returns rfl rfl (hb hby d26_32) e309 ⟨b297, k297, rfl, N309, f316, z315, f314⟩ (by decide) (by decide)

theorem ef_Arrays_copyOfRange_0 (m : MethodId) (x0 : Addr) (x1 : Int32) (x2 : Int32) : entryFrame m #[(.ref x0), (.int x1), (.int x2)] 3 = mkF m 0 #[.val (.ref x0), .val (.int x1), .val (.int x2)] [] := by first | (simp [entryFrame, mkF, argsToLocals, Value.category]; done) | rfl
def Q_Arrays_copyOfRange_0 (Z : State) (b92_112_119 : Addr) (n274 : Int32) (k92_112_119 : ClassId) (l288 : List Value) (h0 : Heap) (n0 : Nat) (v : Option Value) (h : Heap) (L : List Loc) : Prop := ∃ (b297_325 : Addr) (k297_325 : ClassId), v = some (.ref b297_325) ∧ Fr n0 L ∧ Keep h0 h [] ∧ h0.size ≤ b297_325 ∧ Arv Z h b297_325 k297_325 .byte (n274 - (0 : Int32)) (own_cp (own_rep (n274 - (0 : Int32)) (.int (0 : Int32))) (0 : Int32) l288 (0 : Int32) (n274 - (0 : Int32)) (.int (0 : Int32))) (.int (0 : Int32))
set_option maxRecDepth 65536 in
set_option maxHeartbeats 40000000 in
theorem rm_Arrays_copyOfRange_0 (l : Launch) (Z : State) (a0 : Array Value) (hw : ∀ d ∈ tables_1, d.before a0 Z = true) (ws : List Jvm.Cond) (b92_112_119 : Addr) (n274 : Int32) (k92_112_119 : ClassId) (l288 : List Value) (h0 : Heap) (n0 : Nat) (Z0 : n0 ≤ h0.size) (V_b92_112_119 : Arv Z h0 b92_112_119 k92_112_119 .byte (16 : Int32) l288 (.int (0 : Int32))) (d_290 : ¬ n274 = (16 : Int32)) (d_318 : ¬ n274 < (0 : Int32)) (d_319 : ¬ (n274 - (0 : Int32)) < (0 : Int32)) (d_320 : ((n274 - (0 : Int32))).toNatClampNeg ≤ 16) (d_321 : (n274 - (0 : Int32)) < (16 : Int32)) (d_322 : ((0 : Int32)).toNatClampNeg + ((n274 - (0 : Int32))).toNatClampNeg ≤ ((16 : Int32)).toNatClampNeg) (d_323 : ((0 : Int32)).toNatClampNeg + ((n274 - (0 : Int32))).toNatClampNeg ≤ ((n274 - (0 : Int32))).toNatClampNeg) (d_324 : ((0 : Int32)).toNatClampNeg + ((n274 - (0 : Int32))).toNatClampNeg ≤ ((own_rep (n274 - (0 : Int32)) (.int (0 : Int32))) : List Value).length) :
    MetFree l xm0 (head1 (Jvm.Cond.code xm0 jdk_65_method_132_code 3 (some (.array .byte)) :: ws) xr4) (fun a U => a = #[(.ref b92_112_119), (.int (0 : Int32)), (.int n274)] ∧ Z.Warmed39 U.vm ∧ U.heap = h0) (fun _ _ _ _ _ => True) (fun _ U o U' => ∃ v L, o = .returned v ∧ Q_Arrays_copyOfRange_0 Z b92_112_119 n274 k92_112_119 l288 h0 n0 v U'.heap L ∧ FrameEnd U o U' L xr4.cells xr4.slots) := by
  refine MetFree.of_bodySF (plainFor_of_name pn_7) hisR ?_
  intro p e s m args below meth c s₁ Bd hml0 hP hK
  obtain ⟨rfl, hZ, hh⟩ := hP
  have hx := Bd.exec
  have hby := Bd.bytes
  have hlk : meth.locks = false := BodyLoose.notSynchronized Bd
  have hml : c.maxLocals = 3 := hml0
  have hown : s.vm.findClass xs27 = some m.cls := findClass_of_methodNamed Bd.named
  have hnm := (name_of_methodNamed Bd.named Bd.method).1
  have X0 : Stand p l e xr4 s m #[(.ref b92_112_119), (.int (0 : Int32)), (.int n274)] below meth c s₁ [] 0 0 := Stand.of_body Bd
  have e0 : s₁.heap = h0 := by rw [← hh, Bd.state]; rfl
  have N0 := Fr.nil n0
  show Go p e below s (Q_Arrays_copyOfRange_0 Z b92_112_119 n274 k92_112_119 l288 h0 n0) xr4.cells xr4.slots s₁ (entryFrame m #[(.ref b92_112_119), (.int (0 : Int32)), (.int n274)] 3)
  refine Go.cast (ef_Arrays_copyOfRange_0 m b92_112_119 (0 : Int32) n274) ?_
  show Go p e below s _ _ _ s₁ (mkF m 0 #[.val (.ref b92_112_119), .val (.int (0 : Int32)), .val (.int n274)] [])
  refine Go.step (fun _ k => XS.iloadN X0.here hx rfl (hb hby d25_0) rfl (XS.ifNo X0.here hx rfl (hb hby d25_1) rfl ((if0 _ _).trans (teq (by decide)).2) (XS.iloadN X0.here hx rfl (hb hby d25_4) rfl (XS.aloadN X0.here hx rfl (hb hby d25_5) rfl rfl k)))) ?_
  show Go p e below s _ _ _ s₁ (mkF m 6 #[.val (.ref b92_112_119), .val (.int (0 : Int32)), .val (.int n274)] [(.ref b92_112_119), (.int n274)])
  obtain ⟨cl289, Ar289, -, Sz289, Ng289, -, -⟩ := id V_b92_112_119
  have aln289 := X0.arraylength hx (by rw [e0]; exact Ar289.1) (State.isArrayOf_alike hZ.alike Ar289.2.1) (g := (mkF m 6 #[.val (.ref b92_112_119), .val (.int (0 : Int32)), .val (.int n274)] [(.ref b92_112_119), (.int n274)])) rfl rfl (hb hby d25_6)
  rw [len_of Sz289 Ng289] at aln289
  refine Go.step (fun _ k => aln289 _ (XS.icmpNo X0.here hx rfl (hb hby d25_7) rfl (feq d_290).1 (XS.aloadN X0.here hx rfl (hb hby d25_10) rfl rfl (XS.iloadN X0.here hx rfl (hb hby d25_11) rfl (XS.iloadN X0.here hx rfl (hb hby d25_12) rfl k))))) ?_
  show Go p e below s _ _ _ s₁ (mkF m 13 #[.val (.ref b92_112_119), .val (.int (0 : Int32)), .val (.int n274)] [(.int n274), (.int (0 : Int32)), (.ref b92_112_119)])
  obtain ⟨_, _, ⟨T325, L325, k325, n325⟩, -, X325, ⟨Lc325, hQ325, l325, y325, z325⟩, st325⟩ := Jvm.LawKit.callS X0 hx (y := xm14) hown (mvT hZ (tw148 hw)) (mvT hZ (tw149 hw)) (mvT hZ (tw146 hw)) (mvT hZ (tw150 hw)) (by decide) (backOf (W := 0) (rm_Arrays_copyOfRangeByte_0 l Z a0 hw [] b92_112_119 n274 k92_112_119 l288 h0 n0 Z0 d_318 d_319 d_320 V_b92_112_119 d_321 d_322 d_323 d_324) hZ (tw150 hw) (tw146 hw) (by decide) (by decide)) (g := (mkF m 13 #[.val (.ref b92_112_119), .val (.int (0 : Int32)), .val (.int n274)] [(.int n274), (.int (0 : Int32)), (.ref b92_112_119)])) rfl (by rw [hml]; rfl) (argsL := [(.ref b92_112_119), (.int (0 : Int32)), (.int n274)]) (rest := []) (lenOf pd_18 rfl) rfl (by show 2 * 0 + _ ≤ _; exact Nat.le_of_eq rfl) (hb hby d25_13) (fun _ _ => ⟨rfl, e0, (by decide : 0 + 1 ≤ _), (by decide : 0 + 16 ≤ _)⟩)
  dsimp only [Pt.U, Pt.locs, Pt.cells, Pt.slots] at X325 l325 y325 z325 st325 hQ325
  subst l325 y325 z325
  obtain ⟨b297_325, k297_325, rfl, N325q, K325, P325_0, P325_1⟩ := hQ325
  have N326 := Fr.app N0 N325q
  refine Go.step (fun _ k => st325 _ k) ?_
  show Go p e below s _ _ _ T325 (mkF m 16 #[.val (.ref b92_112_119), .val (.int (0 : Int32)), .val (.int n274)] [(.ref b297_325)])
  have f327 := ((Keep.refl h0 []).trans K325 all0)
  have z328 := Nat.le_trans (Nat.le_refl _) P325_0
  have f329 := (Nat.le_trans (Nat.le_refl _) K325.1)
  exact Go.retA X325 hx hlk Bd.returns rfl rfl (hb hby d25_16) rfl ⟨b297_325, k297_325, rfl, N326, f327, z328, P325_1⟩ (by decide) (by decide)

theorem ef_String_new_3 (m : MethodId) (x0 : Addr) (x1 : Addr) : entryFrame m #[(.ref x0), (.ref x1), .null] 5 = mkF m 0 #[.val (.ref x0), .val (.ref x1), .val .null, .unset, .unset] [] := by first | (simp [entryFrame, mkF, argsToLocals, Value.category]; done) | rfl
def Q_String_new_3 (Z : State) (b267 : Addr) (b86 : Addr) (b92_112_119 : Addr) (n274 : Int32) (cs : Int32) (k92_112_119 : ClassId) (l288 : List Value) (h0 : Heap) (n0 : Nat) (v : Option Value) (h : Heap) (L : List Loc) : Prop := ∃ (b297_325_341 : Addr) (k297_325_341 : ClassId), v = none ∧ Fr n0 L ∧ Keep h0 h [b267] ∧ Fld Z h b267 xs25 "coder" "B" (.int (0 : Int32)) ∧ Fld Z h b267 xs25 "value" "[B" (.ref b297_325_341) ∧ h0.size ≤ b297_325_341 ∧ Arv Z h b297_325_341 k297_325_341 .byte (n274 - (0 : Int32)) (own_cp (own_rep (n274 - (0 : Int32)) (.int (0 : Int32))) (0 : Int32) l288 (0 : Int32) (n274 - (0 : Int32)) (.int (0 : Int32))) (.int (0 : Int32))
set_option maxRecDepth 65536 in
set_option maxHeartbeats 40000000 in
theorem rm_String_new_3 (l : Launch) (Z : State) (a0 : Array Value) (hw : ∀ d ∈ tables_1, d.before a0 Z = true) (ws : List Jvm.Cond) (b267 : Addr) (b86 : Addr) (b92_112_119 : Addr) (n274 : Int32) (cs : Int32) (k92_112_119 : ClassId) (l288 : List Value) (h0 : Heap) (n0 : Nat) (Z0 : n0 ≤ h0.size) (E_b86 : Exa Z h0 b86 xs14) (F_value_b86 : Fld Z h0 b86 xs10 "value" "[B" (.ref b92_112_119)) (F_count_b86 : Fld Z h0 b86 xs10 "count" "I" (.int n274)) (Z_S_COMPACT_STRINGS : Sta Z Z.heap xs25 xs28 "Z" (.int cs)) (O0 : Old Z n0 h0) (hcs : ¬ cs = (0 : Int32)) (F_coder_b86 : Fld Z h0 b86 xs10 "coder" "B" (.int (0 : Int32))) (E_b267 : Exa Z h0 b267 xs25) (F_coder_b267 : Fld Z h0 b267 xs25 "coder" "B" (.int (0 : Int32))) (g_b267 : n0 ≤ b267) (V_b92_112_119 : Arv Z h0 b92_112_119 k92_112_119 .byte (16 : Int32) l288 (.int (0 : Int32))) (d_330 : ¬ n274 = (16 : Int32)) (d_331 : ¬ n274 < (0 : Int32)) (d_332 : ¬ (n274 - (0 : Int32)) < (0 : Int32)) (d_333 : ((n274 - (0 : Int32))).toNatClampNeg ≤ 16) (d_334 : (n274 - (0 : Int32)) < (16 : Int32)) (d_335 : ((0 : Int32)).toNatClampNeg + ((n274 - (0 : Int32))).toNatClampNeg ≤ ((16 : Int32)).toNatClampNeg) (d_336 : ((0 : Int32)).toNatClampNeg + ((n274 - (0 : Int32))).toNatClampNeg ≤ ((n274 - (0 : Int32))).toNatClampNeg) (d_337 : ((0 : Int32)).toNatClampNeg + ((n274 - (0 : Int32))).toNatClampNeg ≤ ((own_rep (n274 - (0 : Int32)) (.int (0 : Int32))) : List Value).length) (ne_b92_112_119_b267 : b92_112_119 ≠ b267) (F_value_b267 : Fld Z h0 b267 xs25 "value" "[B" .null) :
    MetFree l xm30 (head1 (Jvm.Cond.code xm30 jdk_42_method_150_code 5 none :: ws) xr5) (fun a U => a = #[(.ref b267), (.ref b86), .null] ∧ Z.Warmed39 U.vm ∧ U.heap = h0) (fun _ _ _ _ _ => True) (fun _ U o U' => ∃ v L, o = .returned v ∧ Q_String_new_3 Z b267 b86 b92_112_119 n274 cs k92_112_119 l288 h0 n0 v U'.heap L ∧ FrameEnd U o U' L xr5.cells xr5.slots) := by
  refine MetFree.of_bodySF (plainFor_of_name pn_1) hisR ?_
  intro p e s m args below meth c s₁ Bd hml0 hP hK
  obtain ⟨rfl, hZ, hh⟩ := hP
  have hx := Bd.exec
  have hby := Bd.bytes
  have hlk : meth.locks = false := BodyLoose.notSynchronized Bd
  have hml : c.maxLocals = 5 := hml0
  have hown : s.vm.findClass xs25 = some m.cls := findClass_of_methodNamed Bd.named
  have hnm := (name_of_methodNamed Bd.named Bd.method).1
  have X0 : Stand p l e xr5 s m #[(.ref b267), (.ref b86), .null] below meth c s₁ [] 0 0 := Stand.of_body Bd
  have e0 : s₁.heap = h0 := by rw [← hh, Bd.state]; rfl
  have N0 := Fr.nil n0
  show Go p e below s (Q_String_new_3 Z b267 b86 b92_112_119 n274 cs k92_112_119 l288 h0 n0) xr5.cells xr5.slots s₁ (entryFrame m #[(.ref b267), (.ref b86), .null] 5)
  refine Go.cast (ef_String_new_3 m b267 b86) ?_
  show Go p e below s _ _ _ s₁ (mkF m 0 #[.val (.ref b267), .val (.ref b86), .val .null, .unset, .unset] [])
  refine Go.step (fun _ k => XS.aloadN X0.here hx rfl (hb hby d20_0) rfl rfl k) ?_
  show Go p e below s _ _ _ s₁ (mkF m 1 #[.val (.ref b267), .val (.ref b86), .val .null, .unset, .unset] [(.ref b267)])
  obtain ⟨T270, X270, e270, st270⟩ := initO X0 hx hZ hown (tw15 hw) (tw16 hw) (tw17 hw) e0 (g := (mkF m 1 #[.val (.ref b267), .val (.ref b86), .val .null, .unset, .unset] [(.ref b267)])) rfl (by rw [hml]; rfl) rfl (hb hby d20_1) (by decide) (W := 0) (by show 2 * 0 + _ ≤ _; exact Nat.le_of_eq rfl) (by decide)
  refine Go.step (fun _ k => st270 _ (XS.aloadN X270.here hx rfl (hb hby d20_4) rfl rfl k)) ?_
  show Go p e below s _ _ _ T270 (mkF m 5 #[.val (.ref b267), .val (.ref b86), .val .null, .unset, .unset] [(.ref b86)])
  obtain ⟨cq272, kq272, q272a, q272b, q272c⟩ := isOf hZ e270 E_b86
  obtain ⟨_, _, ⟨T272, L272, k272, n272⟩, -, X272, ⟨Lc272, hQ272, l272, y272, z272⟩, st272⟩ := X270.virtualBack hx (y := xm7) (z := xm7) hown (mvT hZ (tw126 hw)) (mvT hZ (tw127 hw)) (notFace_of_selects (args := #[]) (mvT hZ (tw129 hw))) (mvT hZ (tw129 hw)) (mvT hZ (tw128 hw)) (by decide) (backOf (W := 0) (rm_AbstractStringBuilder_getValue_0 l Z a0 hw [] b86 b92_112_119 h0 n0 Z0 F_value_b86) hZ (tw130 hw) (tw57 hw) (by decide) (by decide)) q272a q272c (g := (mkF m 5 #[.val (.ref b267), .val (.ref b86), .val .null, .unset, .unset] [(.ref b86)])) rfl (by rw [hml]; rfl) (Steps.refl _) (argsL := []) (rest := []) (lenOf pd_14 rfl) rfl (by show 2 * 0 + _ ≤ _; exact Nat.le_of_eq rfl) (hb hby d20_5) (fun _ _ => ⟨rfl, e270, (by decide : 0 + 0 ≤ _), (by decide : 0 + 0 ≤ _)⟩)
  dsimp only [Pt.U, Pt.locs, Pt.cells, Pt.slots] at X272 l272 y272 z272 st272 hQ272
  subst l272 y272 z272
  obtain ⟨rfl, N272q, eq272⟩ := hQ272
  have N273 := Fr.app N0 N272q
  refine Go.step (fun _ k => st272.trans (XS.astoreN X272.here hx rfl (hb hby d20_8) rfl rfl (l' := #[.val (.ref b267), .val (.ref b86), .val .null, .val (.ref b92_112_119), .unset]) rfl (XS.aloadN X272.here hx rfl (hb hby d20_9) rfl rfl k))) ?_
  show Go p e below s _ _ _ T272 (mkF m 10 #[.val (.ref b267), .val (.ref b86), .val .null, .val (.ref b92_112_119), .unset] [(.ref b86)])
  obtain ⟨cq278, kq278, q278a, q278b, q278c⟩ := isOf hZ eq272 E_b86
  obtain ⟨_, _, ⟨T278, L278, k278, n278⟩, -, X278, ⟨Lc278, hQ278, l278, y278, z278⟩, st278⟩ := X272.virtualBack hx (y := xm20) (z := xm21) hown (mvT hZ (tw131 hw)) (mvT hZ (tw132 hw)) (own_nf (args := #[]) (mvT hZ (tw91 hw)) rfl) (mvT hZ (tw134 hw)) (mvT hZ (tw135 hw)) (by decide) (backOf (W := 0) (rm_StringBuilder_length_0 l Z a0 hw [] b86 n274 h0 n0 Z0 F_count_b86 E_b86) hZ (tw136 hw) (tw49 hw) (by decide) (by decide)) q278a q278c (g := (mkF m 10 #[.val (.ref b267), .val (.ref b86), .val .null, .val (.ref b92_112_119), .unset] [(.ref b86)])) rfl (by rw [hml]; rfl) (Steps.refl _) (argsL := []) (rest := []) (lenOf pd_8 rfl) rfl (by show 2 * 0 + _ ≤ _; exact Nat.le_of_eq rfl) (hb hby d20_10) (fun _ _ => ⟨rfl, eq272, (by decide : 0 + 0 ≤ _), (by decide : 0 + 0 ≤ _)⟩)
  dsimp only [Pt.U, Pt.locs, Pt.cells, Pt.slots] at X278 l278 y278 z278 st278 hQ278
  subst l278 y278 z278
  obtain ⟨rfl, N278q, eq278⟩ := hQ278
  have N279 := Fr.app N273 N278q
  refine Go.step (fun _ k => st278.trans (XS.istore X278.here hx rfl (hb hby d20_13) rfl (l' := #[.val (.ref b267), .val (.ref b86), .val .null, .val (.ref b92_112_119), .val (.int n274)]) rfl (XS.aloadN X278.here hx rfl (hb hby d20_15) rfl rfl k))) ?_
  show Go p e below s _ _ _ T278 (mkF m 16 #[.val (.ref b267), .val (.ref b86), .val .null, .val (.ref b92_112_119), .val (.int n274)] [(.ref b86)])
  obtain ⟨cq282, kq282, q282a, q282b, q282c⟩ := isOf hZ eq278 E_b86
  obtain ⟨_, _, ⟨T282, L282, k282, n282⟩, -, X282, ⟨Lc282, hQ282, l282, y282, z282⟩, st282⟩ := X278.virtualBack hx (y := xm10) (z := xm10) hown (mvT hZ (tw139 hw)) (mvT hZ (tw140 hw)) (notFace_of_selects (args := #[]) (mvT hZ (tw142 hw))) (mvT hZ (tw142 hw)) (mvT hZ (tw141 hw)) (by decide) (backOf (W := 0) (rm_AbstractStringBuilder_isLatin1_0 l Z a0 hw [] b86 cs h0 n0 Z0 Z_S_COMPACT_STRINGS O0 hcs F_coder_b86) hZ (tw143 hw) (tw57 hw) (by decide) (by decide)) q282a q282c (g := (mkF m 16 #[.val (.ref b267), .val (.ref b86), .val .null, .val (.ref b92_112_119), .val (.int n274)] [(.ref b86)])) rfl (by rw [hml]; rfl) (Steps.refl _) (argsL := []) (rest := []) (lenOf pd_15 rfl) rfl (by show 2 * 0 + _ ≤ _; exact Nat.le_of_eq rfl) (hb hby d20_16) (fun _ _ => ⟨rfl, eq278, (by decide : 0 + 0 ≤ _), (by decide : 0 + 0 ≤ _)⟩)
  dsimp only [Pt.U, Pt.locs, Pt.cells, Pt.slots] at X282 l282 y282 z282 st282 hQ282
  subst l282 y282 z282
  obtain ⟨rfl, N282q, eq282⟩ := hQ282
  have N283 := Fr.app N279 N282q
  refine Go.step (fun _ k => st282.trans (XS.ifNo X282.here hx rfl (hb hby d20_19) rfl ((if0 _ _).trans (feq (by decide)).1) (XS.aloadN X282.here hx rfl (hb hby d20_22) rfl rfl (XS.iconst X282.here hx rfl (hb hby d20_23) k)))) ?_
  show Go p e below s _ _ _ T282 (mkF m 24 #[.val (.ref b267), .val (.ref b86), .val .null, .val (.ref b92_112_119), .val (.int n274)] [(.int (0 : Int32)), (.ref b267)])
  obtain ⟨T284, h284, X284, e284, W284, st284⟩ := putFN X282 hx hZ hown (tw25 hw) Via.refl eq282 F_coder_b267 E_b267 (Or.inr ⟨(tw21 hw), rfl, hnm⟩) (tw5 hw) (ty := .byte) (v' := (.int (0 : Int32))) (by decide) rfl rfl (g := (mkF m 24 #[.val (.ref b267), .val (.ref b86), .val .null, .val (.ref b92_112_119), .val (.int n274)] [(.int (0 : Int32)), (.ref b267)])) rfl rfl (hb hby d20_24)
  have f286 := F_coder_b267.same W284
  have N287 := Fr.snoc X284 N283 g_b267
  refine Go.step (fun _ k => st284 _ (XS.aloadN X284.here hx rfl (hb hby d20_27) rfl rfl (XS.aloadN X284.here hx rfl (hb hby d20_28) rfl rfl (XS.iconst X284.here hx rfl (hb hby d20_29) (XS.iload X284.here hx rfl (hb hby d20_30) rfl k))))) ?_
  show Go p e below s _ _ _ T284 (mkF m 32 #[.val (.ref b267), .val (.ref b86), .val .null, .val (.ref b92_112_119), .val (.int n274)] [(.int n274), (.int (0 : Int32)), (.ref b92_112_119), (.ref b267)])
  have f338 := (Nat.le_trans Z0 (Keep.of_wr W284).1)
  have f340 := (V_b92_112_119.other W284 ne_b92_112_119_b267)
  obtain ⟨_, _, ⟨T341, L341, k341, n341⟩, -, X341, ⟨Lc341, hQ341, l341, y341, z341⟩, st341⟩ := Jvm.LawKit.callS X284 hx (y := xm0) hown (mvT hZ (tw144 hw)) (mvT hZ (tw145 hw)) (mvT hZ (tw146 hw)) (mvT hZ (tw147 hw)) (by decide) (backOf (W := 1) (rm_Arrays_copyOfRange_0 l Z a0 hw [] b92_112_119 n274 k92_112_119 l288 h284 n0 f338 f340 d_330 d_331 d_332 d_333 d_334 d_335 d_336 d_337) hZ (tw147 hw) (tw146 hw) (by decide) (by decide)) (g := (mkF m 32 #[.val (.ref b267), .val (.ref b86), .val .null, .val (.ref b92_112_119), .val (.int n274)] [(.int n274), (.int (0 : Int32)), (.ref b92_112_119), (.ref b267)])) rfl (by rw [hml]; rfl) (argsL := [(.ref b92_112_119), (.int (0 : Int32)), (.int n274)]) (rest := [(.ref b267)]) (lenOf pd_18 rfl) rfl (by show 2 * 0 + _ ≤ _; exact Nat.le_of_eq rfl) (hb hby d20_32) (fun _ _ => ⟨rfl, e284, (by decide : 0 + 1 ≤ _), (by decide : 0 + 16 ≤ _)⟩)
  dsimp only [Pt.U, Pt.locs, Pt.cells, Pt.slots] at X341 l341 y341 z341 st341 hQ341
  subst l341 y341 z341
  obtain ⟨b297_325_341, k297_325_341, rfl, N341q, K341, P341_0, P341_1⟩ := hQ341
  have N342 := Fr.app N287 N341q
  refine Go.step (fun _ k => st341 _ k) ?_
  show Go p e below s _ _ _ T341 (mkF m 35 #[.val (.ref b267), .val (.ref b86), .val .null, .val (.ref b92_112_119), .val (.int n274)] [(.ref b297_325_341), (.ref b267)])
  have f343 := ((F_value_b267.other W284 (Or.inr (slot_ne (Or.inr (tw20 hw)) (Or.inr (tw21 hw)) (by decide) (t := (.array .byte)) (t' := .byte) (by decide) (by decide)))).keep K341 nin0)
  have f344 := ((E_b267.wr W284).keep K341)
  obtain ⟨T345, h345, X345, e345, W345, st345⟩ := putF X341 hx hZ hown (host := "") (Or.inl (tw24 hw)) Via.refl rfl f343 f344 (Or.inr ⟨(tw20 hw), rfl, hnm⟩) (tw5 hw) (ty := (.array .byte)) (by decide) rfl rfl (g := (mkF m 35 #[.val (.ref b267), .val (.ref b86), .val .null, .val (.ref b92_112_119), .val (.int n274)] [(.ref b297_325_341), (.ref b267)])) rfl rfl (hb hby d20_35)
  have f346 := f343.same W345
  have N347 := Fr.snoc X345 N342 g_b267
  refine Go.step (fun _ k => st345 _ (XS.goto X345.here hx rfl (pc0 := 38) (pc' := 97) rfl (hb hby d20_38) (by decide) (by decide) k)) ?_
  show Go p e below s _ _ _ T345 (mkF m 97 #[.val (.ref b267), .val (.ref b86), .val .null, .val (.ref b92_112_119), .val (.int n274)] [])
  have f348 := ((((Keep.refl h0 [b267]).wr W284 (Or.inl (List.mem_of_getElem? (i := 0) rfl))).trans K341 all0).wr W345 (Or.inl (List.mem_of_getElem? (i := 0) rfl)))
  have f349 := ((f286.keep K341 nin0).other W345 (Or.inr (slot_ne (Or.inr (tw21 hw)) (Or.inr (tw20 hw)) (by decide) (t := .byte) (t' := (.array .byte)) (by decide) (by decide))))
  have f350 := (Nat.le_trans (Nat.le_refl _) (Keep.of_wr W284).1)
  have z351 := Nat.le_trans f350 P341_0
  have f352 := (E_b267.wr W284)
  have ne353 : b267 ≠ b297_325_341 := Nat.ne_of_lt (Nat.lt_of_lt_of_le f352.lt P341_0)
  have f354 := (P341_1.other W345 (Ne.symm ne353))
  have f355 := (Nat.le_trans (Nat.le_trans (Nat.le_trans (Nat.le_refl _) (Keep.of_wr W284).1) K341.1) (Keep.of_wr W345).1)
  exact Go.retV X345 hx hlk Bd.returns (hb hby d20_97) e345 ⟨b297_325_341, k297_325_341, rfl, N347, f348, f349, f346, z351, f354⟩ (by decide) (by decide)

theorem ef_String_new_2 (m : MethodId) (x0 : Addr) (x1 : Addr) : entryFrame m #[(.ref x0), (.ref x1)] 2 = mkF m 0 #[.val (.ref x0), .val (.ref x1)] [] := by first | (simp [entryFrame, mkF, argsToLocals, Value.category]; done) | rfl
def Q_String_new_2 (Z : State) (b267 : Addr) (b86 : Addr) (b92_112_119 : Addr) (n274 : Int32) (cs : Int32) (k92_112_119 : ClassId) (l288 : List Value) (h0 : Heap) (n0 : Nat) (v : Option Value) (h : Heap) (L : List Loc) : Prop := ∃ (b297_325_341_364 : Addr) (k297_325_341_364 : ClassId), v = none ∧ Fr n0 L ∧ Keep h0 h [b267] ∧ Fld Z h b267 xs25 "coder" "B" (.int (0 : Int32)) ∧ Fld Z h b267 xs25 "value" "[B" (.ref b297_325_341_364) ∧ h0.size ≤ b297_325_341_364 ∧ Arv Z h b297_325_341_364 k297_325_341_364 .byte (n274 - (0 : Int32)) (own_cp (own_rep (n274 - (0 : Int32)) (.int (0 : Int32))) (0 : Int32) l288 (0 : Int32) (n274 - (0 : Int32)) (.int (0 : Int32))) (.int (0 : Int32))
set_option maxRecDepth 65536 in
set_option maxHeartbeats 40000000 in
theorem rm_String_new_2 (l : Launch) (Z : State) (a0 : Array Value) (hw : ∀ d ∈ tables_1, d.before a0 Z = true) (ws : List Jvm.Cond) (b267 : Addr) (b86 : Addr) (b92_112_119 : Addr) (n274 : Int32) (cs : Int32) (k92_112_119 : ClassId) (l288 : List Value) (h0 : Heap) (n0 : Nat) (Z0 : n0 ≤ h0.size) (E_b86 : Exa Z h0 b86 xs14) (F_value_b86 : Fld Z h0 b86 xs10 "value" "[B" (.ref b92_112_119)) (F_count_b86 : Fld Z h0 b86 xs10 "count" "I" (.int n274)) (Z_S_COMPACT_STRINGS : Sta Z Z.heap xs25 xs28 "Z" (.int cs)) (O0 : Old Z n0 h0) (hcs : ¬ cs = (0 : Int32)) (F_coder_b86 : Fld Z h0 b86 xs10 "coder" "B" (.int (0 : Int32))) (E_b267 : Exa Z h0 b267 xs25) (F_coder_b267 : Fld Z h0 b267 xs25 "coder" "B" (.int (0 : Int32))) (g_b267 : n0 ≤ b267) (V_b92_112_119 : Arv Z h0 b92_112_119 k92_112_119 .byte (16 : Int32) l288 (.int (0 : Int32))) (ne_b92_112_119_b267 : b92_112_119 ≠ b267) (F_value_b267 : Fld Z h0 b267 xs25 "value" "[B" .null) (d_356 : ¬ n274 = (16 : Int32)) (d_357 : ¬ n274 < (0 : Int32)) (d_358 : ¬ (n274 - (0 : Int32)) < (0 : Int32)) (d_359 : ((n274 - (0 : Int32))).toNatClampNeg ≤ 16) (d_360 : (n274 - (0 : Int32)) < (16 : Int32)) (d_361 : ((0 : Int32)).toNatClampNeg + ((n274 - (0 : Int32))).toNatClampNeg ≤ ((16 : Int32)).toNatClampNeg) (d_362 : ((0 : Int32)).toNatClampNeg + ((n274 - (0 : Int32))).toNatClampNeg ≤ ((n274 - (0 : Int32))).toNatClampNeg) (d_363 : ((0 : Int32)).toNatClampNeg + ((n274 - (0 : Int32))).toNatClampNeg ≤ ((own_rep (n274 - (0 : Int32)) (.int (0 : Int32))) : List Value).length) :
    MetFree l xm26 (head1 (Jvm.Cond.code xm26 jdk_42_method_53_code 2 none :: ws) xr6) (fun a U => a = #[(.ref b267), (.ref b86)] ∧ Z.Warmed39 U.vm ∧ U.heap = h0) (fun _ _ _ _ _ => True) (fun _ U o U' => ∃ v L, o = .returned v ∧ Q_String_new_2 Z b267 b86 b92_112_119 n274 cs k92_112_119 l288 h0 n0 v U'.heap L ∧ FrameEnd U o U' L xr6.cells xr6.slots) := by
  refine MetFree.of_bodySF (plainFor_of_name pn_1) hisR ?_
  intro p e s m args below meth c s₁ Bd hml0 hP hK
  obtain ⟨rfl, hZ, hh⟩ := hP
  have hx := Bd.exec
  have hby := Bd.bytes
  have hlk : meth.locks = false := BodyLoose.notSynchronized Bd
  have hml : c.maxLocals = 2 := hml0
  have hown : s.vm.findClass xs25 = some m.cls := findClass_of_methodNamed Bd.named
  have hnm := (name_of_methodNamed Bd.named Bd.method).1
  have X0 : Stand p l e xr6 s m #[(.ref b267), (.ref b86)] below meth c s₁ [] 0 0 := Stand.of_body Bd
  have e0 : s₁.heap = h0 := by rw [← hh, Bd.state]; rfl
  have N0 := Fr.nil n0
  show Go p e below s (Q_String_new_2 Z b267 b86 b92_112_119 n274 cs k92_112_119 l288 h0 n0) xr6.cells xr6.slots s₁ (entryFrame m #[(.ref b267), (.ref b86)] 2)
  refine Go.cast (ef_String_new_2 m b267 b86) ?_
  show Go p e below s _ _ _ s₁ (mkF m 0 #[.val (.ref b267), .val (.ref b86)] [])
  refine Go.step (fun _ k => XS.aloadN X0.here hx rfl (hb hby d19_0) rfl rfl (XS.aloadN X0.here hx rfl (hb hby d19_1) rfl rfl (XS.aconstNull X0.here hx rfl (hb hby d19_2) k))) ?_
  show Go p e below s _ _ _ s₁ (mkF m 3 #[.val (.ref b267), .val (.ref b86)] [.null, (.ref b86), (.ref b267)])
  obtain ⟨_, _, ⟨T364, L364, k364, n364⟩, -, X364, ⟨Lc364, hQ364, l364, y364, z364⟩, st364⟩ := X0.specialBack hx (y := xm30) rfl hown (mvT hZ (tw123 hw)) (mvT hZ (tw124 hw)) (mvT hZ (tw125 hw)) (by decide) (backOf (W := 0) (rm_String_new_3 l Z a0 hw [] b267 b86 b92_112_119 n274 cs k92_112_119 l288 h0 n0 Z0 E_b86 F_value_b86 F_count_b86 Z_S_COMPACT_STRINGS O0 hcs F_coder_b86 E_b267 F_coder_b267 g_b267 V_b92_112_119 d_356 d_357 d_358 d_359 d_360 d_361 d_362 d_363 ne_b92_112_119_b267 F_value_b267) hZ (tw125 hw) (tw6 hw) (by decide) (by decide)) (g := (mkF m 3 #[.val (.ref b267), .val (.ref b86)] [.null, (.ref b86), (.ref b267)])) rfl (by rw [hml]; rfl) (Steps.refl _) (a := b267) (argsL := [(.ref b86), .null]) (rest := []) (lenOf pd_19 rfl) rfl (by show 2 * 0 + _ ≤ _; exact Nat.le_of_eq rfl) (hb hby d19_3) (fun _ _ => ⟨rfl, e0, (by decide : 0 + 1 ≤ _), (by decide : 0 + 16 ≤ _)⟩)
  dsimp only [Pt.U, Pt.locs, Pt.cells, Pt.slots] at X364 l364 y364 z364 st364 hQ364
  subst l364 y364 z364
  obtain ⟨b297_325_341_364, k297_325_341_364, rfl, N364q, K364, P364_0, P364_1, P364_2, P364_3⟩ := hQ364
  have N365 := Fr.app N0 N364q
  refine Go.step (fun _ k => st364.trans k) ?_
  show Go p e below s _ _ _ T364 (mkF m 6 #[.val (.ref b267), .val (.ref b86)] [])
  have f366 := ((Keep.refl h0 [b267]).trans K364 (allS (Or.inl (List.mem_of_getElem? (i := 0) rfl)) all0))
  have z367 := Nat.le_trans (Nat.le_refl _) P364_2
  have f368 := (Nat.le_trans (Nat.le_refl _) K364.1)
  exact Go.retV X364 hx hlk Bd.returns (hb hby d19_6) rfl ⟨b297_325_341_364, k297_325_341_364, rfl, N365, f366, P364_0, P364_1, z367, P364_3⟩ (by decide) (by decide)

theorem ef_StringBuilder_toString_0 (m : MethodId) (x0 : Addr) : entryFrame m #[(.ref x0)] 1 = mkF m 0 #[.val (.ref x0)] [] := by first | (simp [entryFrame, mkF, argsToLocals, Value.category]; done) | rfl
def Q_StringBuilder_toString_0 (Z : State) (b86 : Addr) (b92_112_119 : Addr) (n274 : Int32) (cs : Int32) (k92_112_119 : ClassId) (l288 : List Value) (h0 : Heap) (n0 : Nat) (v : Option Value) (h : Heap) (L : List Loc) : Prop := ∃ (b267 : Addr) (b297_325_341_364_384 : Addr) (k297_325_341_364_384 : ClassId), v = some (.ref b267) ∧ Fr n0 L ∧ Keep h0 h [] ∧ h0.size ≤ b267 ∧ Exa Z h b267 xs25 ∧ Fld Z h b267 xs25 "value" "[B" (.ref b297_325_341_364_384) ∧ Fld Z h b267 xs25 "coder" "B" (.int (0 : Int32)) ∧ h0.size ≤ b297_325_341_364_384 ∧ Arv Z h b297_325_341_364_384 k297_325_341_364_384 .byte (n274 - (0 : Int32)) (own_cp (own_rep (n274 - (0 : Int32)) (.int (0 : Int32))) (0 : Int32) l288 (0 : Int32) (n274 - (0 : Int32)) (.int (0 : Int32))) (.int (0 : Int32)) ∧ b267 ≠ b297_325_341_364_384
set_option maxRecDepth 65536 in
set_option maxHeartbeats 40000000 in
theorem rm_StringBuilder_toString_0 (l : Launch) (Z : State) (a0 : Array Value) (hw : ∀ d ∈ tables_1, d.before a0 Z = true) (ws : List Jvm.Cond) (b86 : Addr) (b92_112_119 : Addr) (n274 : Int32) (cs : Int32) (k92_112_119 : ClassId) (l288 : List Value) (h0 : Heap) (n0 : Nat) (Z0 : n0 ≤ h0.size) (E_b86 : Exa Z h0 b86 xs14) (F_value_b86 : Fld Z h0 b86 xs10 "value" "[B" (.ref b92_112_119)) (F_count_b86 : Fld Z h0 b86 xs10 "count" "I" (.int n274)) (Z_S_COMPACT_STRINGS : Sta Z Z.heap xs25 xs28 "Z" (.int cs)) (O0 : Old Z n0 h0) (hcs : ¬ cs = (0 : Int32)) (F_coder_b86 : Fld Z h0 b86 xs10 "coder" "B" (.int (0 : Int32))) (V_b92_112_119 : Arv Z h0 b92_112_119 k92_112_119 .byte (16 : Int32) l288 (.int (0 : Int32))) (d_370 : ¬ n274 = (16 : Int32)) (d_371 : ¬ n274 < (0 : Int32)) (d_372 : ¬ (n274 - (0 : Int32)) < (0 : Int32)) (d_373 : ((n274 - (0 : Int32))).toNatClampNeg ≤ 16) (d_374 : (n274 - (0 : Int32)) < (16 : Int32)) (d_375 : ((0 : Int32)).toNatClampNeg + ((n274 - (0 : Int32))).toNatClampNeg ≤ ((16 : Int32)).toNatClampNeg) (d_376 : ((0 : Int32)).toNatClampNeg + ((n274 - (0 : Int32))).toNatClampNeg ≤ ((n274 - (0 : Int32))).toNatClampNeg) (d_377 : ((0 : Int32)).toNatClampNeg + ((n274 - (0 : Int32))).toNatClampNeg ≤ ((own_rep (n274 - (0 : Int32)) (.int (0 : Int32))) : List Value).length) :
    MetFree l xm15 (head1 (Jvm.Cond.code xm15 jdk_67_method_42_code 1 (some (.object xs25)) :: ws) xr7) (fun a U => a = #[(.ref b86)] ∧ Z.Warmed39 U.vm ∧ U.heap = h0) (fun _ _ _ _ _ => True) (fun _ U o U' => ∃ v L, o = .returned v ∧ Q_StringBuilder_toString_0 Z b86 b92_112_119 n274 cs k92_112_119 l288 h0 n0 v U'.heap L ∧ FrameEnd U o U' L xr7.cells xr7.slots) := by
  refine MetFree.of_bodySF (plainFor_of_name pn_6) hisR ?_
  intro p e s m args below meth c s₁ Bd hml0 hP hK
  obtain ⟨rfl, hZ, hh⟩ := hP
  have hx := Bd.exec
  have hby := Bd.bytes
  have hlk : meth.locks = false := BodyLoose.notSynchronized Bd
  have hml : c.maxLocals = 1 := hml0
  have hown : s.vm.findClass xs14 = some m.cls := findClass_of_methodNamed Bd.named
  have hnm := (name_of_methodNamed Bd.named Bd.method).1
  have X0 : Stand p l e xr7 s m #[(.ref b86)] below meth c s₁ [] 0 0 := Stand.of_body Bd
  have e0 : s₁.heap = h0 := by rw [← hh, Bd.state]; rfl
  have N0 := Fr.nil n0
  show Go p e below s (Q_StringBuilder_toString_0 Z b86 b92_112_119 n274 cs k92_112_119 l288 h0 n0) xr7.cells xr7.slots s₁ (entryFrame m #[(.ref b86)] 1)
  refine Go.cast (ef_StringBuilder_toString_0 m b86) ?_
  show Go p e below s _ _ _ s₁ (mkF m 0 #[.val (.ref b86)] [])
  obtain ⟨T267, h267, X267, e267, E267, A267, D267, -, st267⟩ := newO X0 hx hZ hown (tw119 hw) (tw5 hw) (tw6 hw) e0 (g := (mkF m 0 #[.val (.ref b86)] [])) rfl (hb hby d18_0) (by decide) (by decide)
  obtain ⟨b267, g267⟩ : ∃ z, z = h0.size := ⟨_, rfl⟩
  rw [← g267] at A267 D267 st267
  have f268 : Fld Z h267 b267 xs25 "value" "[B" .null := D267 (Or.inr (tw20 hw)) (ty := (.array .byte)) (by decide)
  have f269 : Fld Z h267 b267 xs25 "coder" "B" (.int (0 : Int32)) := D267 (Or.inr (tw21 hw)) (ty := .byte) (by decide)
  refine Go.step (fun _ k => st267 _ (XS.dup X267.here hx rfl (hb hby d18_3) rfl rfl (XS.aloadN X267.here hx rfl (hb hby d18_4) rfl rfl k))) ?_
  show Go p e below s _ _ _ T267 (mkF m 5 #[.val (.ref b86)] [(.ref b86), (.ref b267), (.ref b267)])
  have g285 := Nat.le_trans Z0 (Nat.le_of_eq g267.symm)
  have ne339 : b92_112_119 ≠ b267 := Nat.ne_of_lt (Nat.lt_of_lt_of_le V_b92_112_119.lt (Nat.le_of_eq g267.symm))
  have f369 := (O0.ext E267)
  have f378 := (Nat.le_trans Z0 E267.1)
  have f379 := (E_b86.ext E267)
  have f380 := (F_value_b86.ext E267)
  have f381 := (F_count_b86.ext E267)
  have f382 := (F_coder_b86.ext E267)
  have f383 := (V_b92_112_119.ext E267)
  obtain ⟨_, _, ⟨T384, L384, k384, n384⟩, -, X384, ⟨Lc384, hQ384, l384, y384, z384⟩, st384⟩ := X267.specialBack hx (y := xm26) rfl hown (mvT hZ (tw120 hw)) (mvT hZ (tw121 hw)) (mvT hZ (tw122 hw)) (by decide) (backOf (W := 1) (rm_String_new_2 l Z a0 hw [] b267 b86 b92_112_119 n274 cs k92_112_119 l288 h267 n0 f378 f379 f380 f381 Z_S_COMPACT_STRINGS f369 hcs f382 A267 f269 g285 f383 ne339 f268 d_370 d_371 d_372 d_373 d_374 d_375 d_376 d_377) hZ (tw122 hw) (tw6 hw) (by decide) (by decide)) (g := (mkF m 5 #[.val (.ref b86)] [(.ref b86), (.ref b267), (.ref b267)])) rfl (by rw [hml]; rfl) (Steps.refl _) (a := b267) (argsL := [(.ref b86)]) (rest := [(.ref b267)]) (lenOf pd_20 rfl) rfl (by show 2 * 0 + _ ≤ _; exact Nat.le_of_eq rfl) (hb hby d18_5) (fun _ _ => ⟨rfl, e267, (by decide : 1 + 1 ≤ _), (by decide : 4 + 16 ≤ _)⟩)
  dsimp only [Pt.U, Pt.locs, Pt.cells, Pt.slots] at X384 l384 y384 z384 st384 hQ384
  subst l384 y384 z384
  obtain ⟨b297_325_341_364_384, k297_325_341_364_384, rfl, N384q, K384, P384_0, P384_1, P384_2, P384_3⟩ := hQ384
  have N385 := Fr.app N0 N384q
  refine Go.step (fun _ k => st384.trans k) ?_
  show Go p e below s _ _ _ T384 (mkF m 8 #[.val (.ref b86)] [(.ref b267)])
  have z386 := Nat.le_trans (Nat.le_refl _) (Nat.le_of_eq g267.symm)
  have f387 := (((Keep.refl h0 []).ext E267).trans K384 (allS (Or.inr z386) all0))
  have f388 := (A267.keep K384)
  have f389 := (Nat.le_trans (Nat.le_refl _) E267.1)
  have z390 := Nat.le_trans f389 P384_2
  have ne391 : b267 ≠ b297_325_341_364_384 := Nat.ne_of_lt (Nat.lt_of_lt_of_le A267.lt P384_2)
  have f392 := (Nat.le_trans (Nat.le_trans (Nat.le_refl _) E267.1) K384.1)
  exact Go.retA X384 hx hlk Bd.returns rfl rfl (hb hby d18_8) rfl ⟨b267, b297_325_341_364_384, k297_325_341_364_384, rfl, N385, f387, z386, f388, P384_1, P384_0, z390, P384_3, ne391⟩ (by decide) (by decide)

theorem ef_SubjectSetType_toString_0 (m : MethodId) (x0 : Addr) : entryFrame m #[(.ref x0)] 1 = mkF m 0 #[.val (.ref x0)] [] := by first | (simp [entryFrame, mkF, argsToLocals, Value.category]; done) | rfl
def Q_SubjectSetType_toString_0 (Z : State) (b64 : Addr) (cs : Int32) (b6_57 : Addr) (b13_41_49_57 : Addr) (kb13_41_49_57 : ClassId) (n125 : Int32) (l126 : List Value) (b6_61 : Addr) (b13_41_49_61 : Addr) (kb13_41_49_61 : ClassId) (n244 : Int32) (l245 : List Value) (h0 : Heap) (n0 : Nat) (v : Option Value) (h : Heap) (L : List Loc) : Prop := ∃ (b267_404 : Addr) (b297_325_341_364_384_404 : Addr) (k297_325_341_364_384_404 : ClassId), v = some (.ref b267_404) ∧ Fr n0 L ∧ Keep h0 h [] ∧ h0.size ≤ b267_404 ∧ Exa Z h b267_404 xs25 ∧ Fld Z h b267_404 xs25 "value" "[B" (.ref b297_325_341_364_384_404) ∧ Fld Z h b267_404 xs25 "coder" "B" (.int (0 : Int32)) ∧ h0.size ≤ b297_325_341_364_384_404 ∧ Arv Z h b297_325_341_364_384_404 k297_325_341_364_384_404 .byte ((((((((0 : Int32) + (n125 >>> ((0 : Int32) &&& 31)))) + ((1 : Int32) >>> ((0 : Int32) &&& 31)))) + (n244 >>> ((0 : Int32) &&& 31)))) - (0 : Int32)) (own_cp (own_rep ((((((((0 : Int32) + (n125 >>> ((0 : Int32) &&& 31)))) + ((1 : Int32) >>> ((0 : Int32) &&& 31)))) + (n244 >>> ((0 : Int32) &&& 31)))) - (0 : Int32)) (.int (0 : Int32))) (0 : Int32) ((own_cp ((own_cp ((own_cp ([(.int (0 : Int32)), (.int (0 : Int32)), (.int (0 : Int32)), (.int (0 : Int32)), (.int (0 : Int32)), (.int (0 : Int32)), (.int (0 : Int32)), (.int (0 : Int32)), (.int (0 : Int32)), (.int (0 : Int32)), (.int (0 : Int32)), (.int (0 : Int32)), (.int (0 : Int32)), (.int (0 : Int32)), (.int (0 : Int32)), (.int (0 : Int32))]) ((0 : Int32) <<< ((0 : Int32) &&& 31)) l126 (0 : Int32) n125 (.int (0 : Int32)))) ((((0 : Int32) + (n125 >>> ((0 : Int32) &&& 31)))) <<< ((0 : Int32) &&& 31)) ([(.int (35 : Int32))]) (0 : Int32) (1 : Int32) (.int (0 : Int32)))) ((((((0 : Int32) + (n125 >>> ((0 : Int32) &&& 31)))) + ((1 : Int32) >>> ((0 : Int32) &&& 31)))) <<< ((0 : Int32) &&& 31)) l245 (0 : Int32) n244 (.int (0 : Int32)))) (0 : Int32) ((((((((0 : Int32) + (n125 >>> ((0 : Int32) &&& 31)))) + ((1 : Int32) >>> ((0 : Int32) &&& 31)))) + (n244 >>> ((0 : Int32) &&& 31)))) - (0 : Int32)) (.int (0 : Int32))) (.int (0 : Int32)) ∧ b267_404 ≠ b297_325_341_364_384_404
set_option maxRecDepth 65536 in
set_option maxHeartbeats 40000000 in
theorem rm_SubjectSetType_toString_0 (l : Launch) (Z : State) (a0 : Array Value) (hw : ∀ d ∈ tables_1, d.before a0 Z = true) (ws : List Jvm.Cond) (b64 : Addr) (cs : Int32) (b6_57 : Addr) (b13_41_49_57 : Addr) (kb13_41_49_57 : ClassId) (n125 : Int32) (l126 : List Value) (b6_61 : Addr) (b13_41_49_61 : Addr) (kb13_41_49_61 : ClassId) (n244 : Int32) (l245 : List Value) (h0 : Heap) (n0 : Nat) (Z0 : n0 ≤ h0.size) (Z_S_COMPACT_STRINGS : Sta Z Z.heap xs25 xs28 "Z" (.int cs)) (O0 : Old Z n0 h0) (hcs : ¬ cs = (0 : Int32)) (F_type_b64 : Fld Z h0 b64 xs2 "type" xs21 (.ref b6_57)) (E_b6_57 : Exa Z h0 b6_57 xs25) (F_value_b6_57 : Fld Z h0 b6_57 xs25 "value" "[B" (.ref b13_41_49_57)) (V_b13_41_49_57 : Arv Z h0 b13_41_49_57 kb13_41_49_57 .byte n125 l126 (.int (0 : Int32))) (F_coder_b6_57 : Fld Z h0 b6_57 xs25 "coder" "B" (.int (0 : Int32))) (d_208 : ¬ (0 : Int32) < (((0 : Int32) + (n125 >>> ((0 : Int32) &&& 31))) - (16 : Int32))) (d_209 : ¬ n125 < (0 : Int32)) (d_210 : ((0 : Int32)).toNatClampNeg + (n125).toNatClampNeg ≤ (n125).toNatClampNeg) (d_211 : (((0 : Int32) <<< ((0 : Int32) &&& 31))).toNatClampNeg + (n125).toNatClampNeg ≤ ((16 : Int32)).toNatClampNeg) (d_212 : (((0 : Int32) <<< ((0 : Int32) &&& 31))).toNatClampNeg + (n125).toNatClampNeg ≤ ([(.int (0 : Int32)), (.int (0 : Int32)), (.int (0 : Int32)), (.int (0 : Int32)), (.int (0 : Int32)), (.int (0 : Int32)), (.int (0 : Int32)), (.int (0 : Int32)), (.int (0 : Int32)), (.int (0 : Int32)), (.int (0 : Int32)), (.int (0 : Int32)), (.int (0 : Int32)), (.int (0 : Int32)), (.int (0 : Int32)), (.int (0 : Int32))] : List Value).length) (d_228 : ¬ (0 : Int32) < ((((0 : Int32) + (n125 >>> ((0 : Int32) &&& 31))) + ((1 : Int32) >>> ((0 : Int32) &&& 31))) - (16 : Int32))) (d_229 : ¬ (((0 : Int32) + (n125 >>> ((0 : Int32) &&& 31))) <<< ((0 : Int32) &&& 31)) < (0 : Int32)) (d_230 : ((((0 : Int32) + (n125 >>> ((0 : Int32) &&& 31))) <<< ((0 : Int32) &&& 31))).toNatClampNeg + ((1 : Int32)).toNatClampNeg ≤ ((16 : Int32)).toNatClampNeg) (d_231 : ((((0 : Int32) + (n125 >>> ((0 : Int32) &&& 31))) <<< ((0 : Int32) &&& 31))).toNatClampNeg + ((1 : Int32)).toNatClampNeg ≤ ((own_cp ([(.int (0 : Int32)), (.int (0 : Int32)), (.int (0 : Int32)), (.int (0 : Int32)), (.int (0 : Int32)), (.int (0 : Int32)), (.int (0 : Int32)), (.int (0 : Int32)), (.int (0 : Int32)), (.int (0 : Int32)), (.int (0 : Int32)), (.int (0 : Int32)), (.int (0 : Int32)), (.int (0 : Int32)), (.int (0 : Int32)), (.int (0 : Int32))]) ((0 : Int32) <<< ((0 : Int32) &&& 31)) l126 (0 : Int32) n125 (.int (0 : Int32))) : List Value).length) (F_relation_b64 : Fld Z h0 b64 xs2 "relation" xs21 (.ref b6_61)) (E_b6_61 : Exa Z h0 b6_61 xs25) (F_value_b6_61 : Fld Z h0 b6_61 xs25 "value" "[B" (.ref b13_41_49_61)) (V_b13_41_49_61 : Arv Z h0 b13_41_49_61 kb13_41_49_61 .byte n244 l245 (.int (0 : Int32))) (F_coder_b6_61 : Fld Z h0 b6_61 xs25 "coder" "B" (.int (0 : Int32))) (d_247 : ¬ (0 : Int32) < ((((((0 : Int32) + (n125 >>> ((0 : Int32) &&& 31)))) + ((1 : Int32) >>> ((0 : Int32) &&& 31))) + (n244 >>> ((0 : Int32) &&& 31))) - (16 : Int32))) (d_248 : ¬ (((((0 : Int32) + (n125 >>> ((0 : Int32) &&& 31)))) + ((1 : Int32) >>> ((0 : Int32) &&& 31))) <<< ((0 : Int32) &&& 31)) < (0 : Int32)) (d_249 : ¬ n244 < (0 : Int32)) (d_250 : ((0 : Int32)).toNatClampNeg + (n244).toNatClampNeg ≤ (n244).toNatClampNeg) (d_251 : ((((((0 : Int32) + (n125 >>> ((0 : Int32) &&& 31)))) + ((1 : Int32) >>> ((0 : Int32) &&& 31))) <<< ((0 : Int32) &&& 31))).toNatClampNeg + (n244).toNatClampNeg ≤ ((16 : Int32)).toNatClampNeg) (d_252 : ((((((0 : Int32) + (n125 >>> ((0 : Int32) &&& 31)))) + ((1 : Int32) >>> ((0 : Int32) &&& 31))) <<< ((0 : Int32) &&& 31))).toNatClampNeg + (n244).toNatClampNeg ≤ ((own_cp ((own_cp ([(.int (0 : Int32)), (.int (0 : Int32)), (.int (0 : Int32)), (.int (0 : Int32)), (.int (0 : Int32)), (.int (0 : Int32)), (.int (0 : Int32)), (.int (0 : Int32)), (.int (0 : Int32)), (.int (0 : Int32)), (.int (0 : Int32)), (.int (0 : Int32)), (.int (0 : Int32)), (.int (0 : Int32)), (.int (0 : Int32)), (.int (0 : Int32))]) ((0 : Int32) <<< ((0 : Int32) &&& 31)) l126 (0 : Int32) n125 (.int (0 : Int32)))) ((((0 : Int32) + (n125 >>> ((0 : Int32) &&& 31)))) <<< ((0 : Int32) &&& 31)) ([(.int (35 : Int32))]) (0 : Int32) (1 : Int32) (.int (0 : Int32))) : List Value).length) (d_394 : ¬ ((((((0 : Int32) + (n125 >>> ((0 : Int32) &&& 31)))) + ((1 : Int32) >>> ((0 : Int32) &&& 31)))) + (n244 >>> ((0 : Int32) &&& 31))) = (16 : Int32)) (d_395 : ¬ ((((((0 : Int32) + (n125 >>> ((0 : Int32) &&& 31)))) + ((1 : Int32) >>> ((0 : Int32) &&& 31)))) + (n244 >>> ((0 : Int32) &&& 31))) < (0 : Int32)) (d_396 : ¬ (((((((0 : Int32) + (n125 >>> ((0 : Int32) &&& 31)))) + ((1 : Int32) >>> ((0 : Int32) &&& 31)))) + (n244 >>> ((0 : Int32) &&& 31))) - (0 : Int32)) < (0 : Int32)) (d_397 : ((((((((0 : Int32) + (n125 >>> ((0 : Int32) &&& 31)))) + ((1 : Int32) >>> ((0 : Int32) &&& 31)))) + (n244 >>> ((0 : Int32) &&& 31))) - (0 : Int32))).toNatClampNeg ≤ 16) (d_398 : (((((((0 : Int32) + (n125 >>> ((0 : Int32) &&& 31)))) + ((1 : Int32) >>> ((0 : Int32) &&& 31)))) + (n244 >>> ((0 : Int32) &&& 31))) - (0 : Int32)) < (16 : Int32)) (d_399 : ((0 : Int32)).toNatClampNeg + ((((((((0 : Int32) + (n125 >>> ((0 : Int32) &&& 31)))) + ((1 : Int32) >>> ((0 : Int32) &&& 31)))) + (n244 >>> ((0 : Int32) &&& 31))) - (0 : Int32))).toNatClampNeg ≤ ((16 : Int32)).toNatClampNeg) (d_400 : ((0 : Int32)).toNatClampNeg + ((((((((0 : Int32) + (n125 >>> ((0 : Int32) &&& 31)))) + ((1 : Int32) >>> ((0 : Int32) &&& 31)))) + (n244 >>> ((0 : Int32) &&& 31))) - (0 : Int32))).toNatClampNeg ≤ ((((((((0 : Int32) + (n125 >>> ((0 : Int32) &&& 31)))) + ((1 : Int32) >>> ((0 : Int32) &&& 31)))) + (n244 >>> ((0 : Int32) &&& 31))) - (0 : Int32))).toNatClampNeg) (d_401 : ((0 : Int32)).toNatClampNeg + ((((((((0 : Int32) + (n125 >>> ((0 : Int32) &&& 31)))) + ((1 : Int32) >>> ((0 : Int32) &&& 31)))) + (n244 >>> ((0 : Int32) &&& 31))) - (0 : Int32))).toNatClampNeg ≤ ((own_rep (((((((0 : Int32) + (n125 >>> ((0 : Int32) &&& 31)))) + ((1 : Int32) >>> ((0 : Int32) &&& 31)))) + (n244 >>> ((0 : Int32) &&& 31))) - (0 : Int32)) (.int (0 : Int32))) : List Value).length) :
    MetFree l xm22 (head1 (Jvm.Cond.code xm22 prog_31_method_2_code 1 (some (.object xs25)) :: ws) xr8) (fun a U => a = #[(.ref b64)] ∧ Z.Warmed39 U.vm ∧ U.heap = h0 ∧ CHv Z consts_1 U.vm h0) (fun _ _ _ _ _ => True) (fun _ U o U' => ∃ v L, o = .returned v ∧ Q_SubjectSetType_toString_0 Z b64 cs b6_57 b13_41_49_57 kb13_41_49_57 n125 l126 b6_61 b13_41_49_61 kb13_41_49_61 n244 l245 h0 n0 v U'.heap L ∧ CHr Z consts_1 U.vm U.heap U'.vm U'.heap ∧ ReturnedEndW U o U' L xr8.cells xr8.slots) := by
  refine MetFree.of_bodySF (plainFor_of_name pn_4) hisR ?_
  intro p e s m args below meth c s₁ Bd hml0 hP hK
  obtain ⟨rfl, hZ, hh, hCH⟩ := hP
  have hx := Bd.exec
  have hby := Bd.bytes
  have hlk : meth.locks = false := BodyLoose.notSynchronized Bd
  have hml : c.maxLocals = 1 := hml0
  have hown : s.vm.findClass xs2 = some m.cls := findClass_of_methodNamed Bd.named
  have hnm := (name_of_methodNamed Bd.named Bd.method).1
  have X0 : Stand p l e xr8 (s.setVm s.vm) m #[(.ref b64)] below meth c s₁ [] 0 0 := Stand.of_body Bd
  have e0 : s₁.heap = h0 := by rw [← hh, Bd.state]; rfl
  have N0 := Fr.nil n0
  have hS0 : s.Since s.vm h0.size := (State.WarmedH.refl s).since _
  have CH0 : CHr Z consts_1 s.vm s.heap s.vm h0 := by rw [hh]; exact CHr.refl hCH
  have hZ_0 := hZ
  show GoH p e below s (((Q_SubjectSetType_toString_0 Z b64 cs b6_57 b13_41_49_57 kb13_41_49_57 n125 l126 b6_61 b13_41_49_61 kb13_41_49_61 n244 l245 h0 n0, fun vm h => CHr Z consts_1 s.vm s.heap vm h) : (Option Value → Heap → List Loc → Prop) × (Vm → Heap → Prop))) xr8.cells xr8.slots s₁ (entryFrame m #[(.ref b64)] 1)
  refine GoH.cast (ef_SubjectSetType_toString_0 m b64) ?_
  show GoH p e below s _ _ _ s₁ (mkF m 0 #[.val (.ref b64)] [])
  obtain ⟨T86, h86, X86, e86, E86, A86, D86, -, st86⟩ := newO X0 hx hZ hown (tw47 hw) (tw48 hw) (tw49 hw) e0 (g := (mkF m 0 #[.val (.ref b64)] [])) rfl (hb hby d7_0) (by decide) (by decide)
  obtain ⟨b86, g86⟩ : ∃ z, z = h0.size := ⟨_, rfl⟩
  rw [← g86] at A86 D86 st86
  have f87 : Fld Z h86 b86 xs10 "value" "[B" .null := D86 (Or.inl (tw62 hw)) (ty := (.array .byte)) (by decide)
  have f88 : Fld Z h86 b86 xs10 "coder" "B" (.int (0 : Int32)) := D86 (Or.inl (tw64 hw)) (ty := .byte) (by decide)
  have f89 : Fld Z h86 b86 xs10 "count" "I" (.int (0 : Int32)) := D86 (Or.inl (tw87 hw)) (ty := .int) (by decide)
  refine GoH.step (fun _ k => st86 _ (XS.dup X86.here hx rfl (hb hby d7_3) rfl rfl k)) ?_
  show GoH p e below s _ _ _ T86 (mkF m 4 #[.val (.ref b64)] [(.ref b86), (.ref b86)])
  have g97 := Nat.le_trans Z0 (Nat.le_of_eq g86.symm)
  have f117 := (O0.ext E86)
  have f118 := (Nat.le_trans Z0 E86.1)
  obtain ⟨_, _, ⟨T119, L119, k119, n119⟩, -, X119, ⟨Lc119, hQ119, l119, y119, z119⟩, st119⟩ := X86.specialBack hx (y := xm18) rfl hown (mvT hZ (tw50 hw)) (mvT hZ (tw51 hw)) (mvT hZ (tw52 hw)) (by decide) (backOf (W := 1) (rm_StringBuilder_new_0 l Z a0 hw [] b86 cs h86 n0 f118 Z_S_COMPACT_STRINGS f117 hcs A86 f87 g97 f88 f89) hZ (tw52 hw) (tw49 hw) (by decide) (by decide)) (g := (mkF m 4 #[.val (.ref b64)] [(.ref b86), (.ref b86)])) rfl (by rw [hml]; rfl) (Steps.refl _) (a := b86) (argsL := []) (rest := [(.ref b86)]) (lenOf pd_4 rfl) rfl (by show 2 * 0 + _ ≤ _; exact Nat.le_of_eq rfl) (hb hby d7_4) (fun _ _ => ⟨rfl, e86, (by decide : 1 + 1 ≤ _), (by decide : 4 + 16 ≤ _)⟩)
  dsimp only [Pt.U, Pt.locs, Pt.cells, Pt.slots] at X119 l119 y119 z119 st119 hQ119
  subst l119 y119 z119
  obtain ⟨b92_112_119, k92_112_119, rfl, N119q, K119, P119_0, P119_1, P119_2, P119_3, P119_4⟩ := hQ119
  have N120 := Fr.app N0 N119q
  refine GoH.step (fun _ k => st119.trans (XS.aloadN X119.here hx rfl (hb hby d7_7) rfl rfl k)) ?_
  show GoH p e below s _ _ _ T119 (mkF m 8 #[.val (.ref b64)] [(.ref b64), (.ref b86)])
  have ne121 : b64 ≠ b86 := Nat.ne_of_lt (Nat.lt_of_lt_of_le F_type_b64.lt (Nat.le_of_eq g86.symm))
  have f122 := ((F_type_b64.ext E86).keep K119 (ninS ne121 nin0))
  obtain ⟨T123, X123, e123, st123⟩ := getF X119 hx hZ hown (host := "") (Or.inl (tw38 hw)) Via.refl rfl f122 (g := (mkF m 8 #[.val (.ref b64)] [(.ref b64), (.ref b86)])) rfl rfl (hb hby d7_8)
  refine GoH.step (fun _ k => st123 _ k) ?_
  show GoH p e below s _ _ _ T123 (mkF m 11 #[.val (.ref b64)] [(.ref b6_57), (.ref b86)])
  have g160 := Nat.le_trans f118 P119_3
  have ne185 : b86 ≠ b92_112_119 := Nat.ne_of_lt (Nat.lt_of_lt_of_le A86.lt P119_3)
  have f207 := (f117.keep K119 (allS g97 all0))
  have f213 := (Nat.le_trans f118 K119.1)
  have f214 := ((E_b6_57.ext E86).keep K119)
  have ne215 : b6_57 ≠ b86 := Nat.ne_of_lt (Nat.lt_of_lt_of_le E_b6_57.lt (Nat.le_of_eq g86.symm))
  have f216 := ((F_value_b6_57.ext E86).keep K119 (ninS ne215 nin0))
  have ne217 : b13_41_49_57 ≠ b86 := Nat.ne_of_lt (Nat.lt_of_lt_of_le V_b13_41_49_57.lt (Nat.le_of_eq g86.symm))
  have f218 := ((V_b13_41_49_57.ext E86).keep K119 (ninS ne217 nin0))
  have f219 := ((F_coder_b6_57.ext E86).keep K119 (ninS ne215 nin0))
  have f220 := (A86.keep K119)
  obtain ⟨cq221, kq221, q221a, q221b, q221c⟩ := isOf hZ e123 f220
  obtain ⟨_, _, ⟨T221, L221, k221, n221⟩, -, X221, ⟨Lc221, hQ221, l221, y221, z221⟩, st221⟩ := X123.virtualBack hx (y := xm29) (z := xm29) hown (mvT hZ (tw65 hw)) (mvT hZ (tw66 hw)) (notFace_of_selects (args := #[]) (mvT hZ (tw68 hw))) (mvT hZ (tw68 hw)) (mvT hZ (tw67 hw)) (by decide) (backOf (W := 0) (rm_StringBuilder_append_0 l Z a0 hw [] b86 b6_57 b13_41_49_57 kb13_41_49_57 n125 l126 cs (0 : Int32) b92_112_119 k92_112_119 ([(.int (0 : Int32)), (.int (0 : Int32)), (.int (0 : Int32)), (.int (0 : Int32)), (.int (0 : Int32)), (.int (0 : Int32)), (.int (0 : Int32)), (.int (0 : Int32)), (.int (0 : Int32)), (.int (0 : Int32)), (.int (0 : Int32)), (.int (0 : Int32)), (.int (0 : Int32)), (.int (0 : Int32)), (.int (0 : Int32)), (.int (0 : Int32))]) T119.heap n0 f213 f214 f216 f218 Z_S_COMPACT_STRINGS f207 hcs f219 P119_2 P119_0 P119_4 P119_1 f220 g160 ne185 g97 d_208 (by decide) d_209 d_210 d_211 d_212) hZ (tw69 hw) (tw49 hw) (by decide) (by decide)) q221a q221c (g := (mkF m 11 #[.val (.ref b64)] [(.ref b6_57), (.ref b86)])) rfl (by rw [hml]; rfl) (Steps.refl _) (argsL := [(.ref b6_57)]) (rest := []) (lenOf pd_13 rfl) rfl (by show 2 * 0 + _ ≤ _; exact Nat.le_of_eq rfl) (hb hby d7_11) (fun _ _ => ⟨rfl, e123, (by decide : 2 + 0 ≤ _), (by decide : 20 + 0 ≤ _)⟩)
  dsimp only [Pt.U, Pt.locs, Pt.cells, Pt.slots] at X221 l221 y221 z221 st221 hQ221
  subst l221 y221 z221
  obtain ⟨rfl, N221q, K221, P221_0, P221_1, P221_2, P221_3⟩ := hQ221
  have N222 := Fr.app N120 N221q
  refine GoH.step (fun _ k => st221.trans k) ?_
  show GoH p e below s _ _ _ T221 (mkF m 14 #[.val (.ref b64)] [(.ref b86)])
  have f224 := (Nat.le_trans (Nat.le_trans (Nat.le_trans (Nat.le_refl _) E86.1) K119.1) K221.1)
  have f225 := (own_chK (own_chK (own_chE CH0 E86) K119 (sfS (Safe.exa hZ_0.alike A86 (by decide) (by decide)) sf0)) K221 (sfS (own_safeL hZ_0 (own_Nots hw _ (by decide)) P119_4) (sfS (Safe.exa hZ_0.alike f220 (by decide) (by decide)) sf0)))
  obtain ⟨a223, T223, h223, k223, b223, kb223, X223, e223, E223, hS223, hk223, hZ223, hown223, A223, C223, D223, V223, -, -, ch223, -, sf223, st223⟩ := ldcCH X221 hx hZ hown (tw113 hw) (own_wS hw) rfl hS0 f224 (own_EW hw) (List.mem_of_getElem? (i := 0) rfl) f225.1 (vs := [(.int (35 : Int32))]) (z := (1 : Int32)) ⟨by decide, rfl⟩ (by decide) rfl (g := (mkF m 14 #[.val (.ref b64)] [(.ref b86)])) rfl (hb hby d7_14) (n := 4) (by decide) (by decide) (by decide) (by decide)
  have f226 := f225.trans ch223
  refine GoH.step (fun _ k => st223 _ k) ?_
  show GoH p e below s _ _ _ T223 (mkF m 16 #[.val (.ref b64)] [(.ref a223), (.ref b86)])
  have f227 := ((f207.keep K221 (allS g160 (allS g97 all0))).ext E223)
  have f232 := (Nat.le_trans (Nat.le_trans f213 K221.1) E223.1)
  have f233 := (P221_1.ext E223)
  have f234 := (P221_2.ext E223)
  have f235 := (P221_0.ext E223)
  have f236 := (P221_3.ext E223)
  have f237 := ((f220.keep K221).ext E223)
  obtain ⟨cq238, kq238, q238a, q238b, q238c⟩ := isOf hZ223 e223 f237
  obtain ⟨_, _, ⟨T238, L238, k238, n238⟩, -, X238, ⟨Lc238, hQ238, l238, y238, z238⟩, st238⟩ := X223.virtualBack hx (y := xm29) (z := xm29) hown223 (mvT hZ223 (tw65 hw)) (mvT hZ223 (tw66 hw)) (notFace_of_selects (args := #[]) (mvT hZ223 (tw68 hw))) (mvT hZ223 (tw68 hw)) (mvT hZ223 (tw67 hw)) (by decide) (backOf (W := 0) (rm_StringBuilder_append_0 l Z a0 hw [] b86 a223 b223 kb223 (1 : Int32) ([(.int (35 : Int32))]) cs (((0 : Int32) + (n125 >>> ((0 : Int32) &&& 31)))) b92_112_119 k92_112_119 ((own_cp ([(.int (0 : Int32)), (.int (0 : Int32)), (.int (0 : Int32)), (.int (0 : Int32)), (.int (0 : Int32)), (.int (0 : Int32)), (.int (0 : Int32)), (.int (0 : Int32)), (.int (0 : Int32)), (.int (0 : Int32)), (.int (0 : Int32)), (.int (0 : Int32)), (.int (0 : Int32)), (.int (0 : Int32)), (.int (0 : Int32)), (.int (0 : Int32))]) ((0 : Int32) <<< ((0 : Int32) &&& 31)) l126 (0 : Int32) n125 (.int (0 : Int32)))) h223 n0 f232 A223 D223 V223 Z_S_COMPACT_STRINGS f227 hcs C223 f233 f234 f235 f236 f237 g160 ne185 g97 d_228 d_229 (by decide) (Nat.le_of_ble_eq_true rfl) d_230 d_231) hZ223 (tw69 hw) (tw49 hw) (by decide) (by decide)) q238a q238c (g := (mkF m 16 #[.val (.ref b64)] [(.ref a223), (.ref b86)])) rfl (by rw [hml]; rfl) (Steps.refl _) (argsL := [(.ref a223)]) (rest := []) (lenOf pd_13 rfl) rfl (by show 2 * 0 + _ ≤ _; exact Nat.le_of_eq rfl) (hb hby d7_16) (fun _ _ => ⟨rfl, e223, (by decide : 4 + 0 ≤ _), (by decide : 28 + 0 ≤ _)⟩)
  dsimp only [Pt.U, Pt.locs, Pt.cells, Pt.slots] at X238 l238 y238 z238 st238 hQ238
  subst l238 y238 z238
  obtain ⟨rfl, N238q, K238, P238_0, P238_1, P238_2, P238_3⟩ := hQ238
  have N239 := Fr.app N222 N238q
  refine GoH.step (fun _ k => st238.trans (XS.aloadN X238.here hx rfl (hb hby d7_19) rfl rfl k)) ?_
  show GoH p e below s _ _ _ T238 (mkF m 20 #[.val (.ref b64)] [(.ref b64), (.ref b86)])
  have f240 := (F_type_b64.ext E86)
  have ne241 : b64 ≠ b92_112_119 := Nat.ne_of_lt (Nat.lt_of_lt_of_le f240.lt P119_3)
  have f242 := (((((F_relation_b64.ext E86).keep K119 (ninS ne121 nin0)).keep K221 (ninS ne241 (ninS ne121 nin0))).ext E223).keep K238 (ninS ne241 (ninS ne121 nin0)))
  obtain ⟨T243, X243, e243, st243⟩ := getF X238 hx hZ223 hown223 (host := "") (Or.inl (tw40 hw)) Via.refl rfl f242 (g := (mkF m 20 #[.val (.ref b64)] [(.ref b64), (.ref b86)])) rfl rfl (hb hby d7_20)
  refine GoH.step (fun _ k => st243 _ k) ?_
  show GoH p e below s _ _ _ T243 (mkF m 23 #[.val (.ref b64)] [(.ref b6_61), (.ref b86)])
  have f246 := (f227.keep K238 (allS g160 (allS g97 all0)))
  have f253 := (Nat.le_trans f232 K238.1)
  have f254 := (((((E_b6_61.ext E86).keep K119).keep K221).ext E223).keep K238)
  have ne255 : b6_61 ≠ b86 := Nat.ne_of_lt (Nat.lt_of_lt_of_le E_b6_61.lt (Nat.le_of_eq g86.symm))
  have f256 := (E_b6_61.ext E86)
  have ne257 : b6_61 ≠ b92_112_119 := Nat.ne_of_lt (Nat.lt_of_lt_of_le f256.lt P119_3)
  have f258 := (((((F_value_b6_61.ext E86).keep K119 (ninS ne255 nin0)).keep K221 (ninS ne257 (ninS ne255 nin0))).ext E223).keep K238 (ninS ne257 (ninS ne255 nin0)))
  have ne259 : b13_41_49_61 ≠ b86 := Nat.ne_of_lt (Nat.lt_of_lt_of_le V_b13_41_49_61.lt (Nat.le_of_eq g86.symm))
  have f260 := (V_b13_41_49_61.ext E86)
  have ne261 : b13_41_49_61 ≠ b92_112_119 := Nat.ne_of_lt (Nat.lt_of_lt_of_le f260.lt P119_3)
  have f262 := (((((V_b13_41_49_61.ext E86).keep K119 (ninS ne259 nin0)).keep K221 (ninS ne261 (ninS ne259 nin0))).ext E223).keep K238 (ninS ne261 (ninS ne259 nin0)))
  have f263 := (((((F_coder_b6_61.ext E86).keep K119 (ninS ne255 nin0)).keep K221 (ninS ne257 (ninS ne255 nin0))).ext E223).keep K238 (ninS ne257 (ninS ne255 nin0)))
  have f264 := (f237.keep K238)
  obtain ⟨cq265, kq265, q265a, q265b, q265c⟩ := isOf hZ223 e243 f264
  obtain ⟨_, _, ⟨T265, L265, k265, n265⟩, -, X265, ⟨Lc265, hQ265, l265, y265, z265⟩, st265⟩ := X243.virtualBack hx (y := xm29) (z := xm29) hown223 (mvT hZ223 (tw65 hw)) (mvT hZ223 (tw66 hw)) (notFace_of_selects (args := #[]) (mvT hZ223 (tw68 hw))) (mvT hZ223 (tw68 hw)) (mvT hZ223 (tw67 hw)) (by decide) (backOf (W := 0) (rm_StringBuilder_append_0 l Z a0 hw [] b86 b6_61 b13_41_49_61 kb13_41_49_61 n244 l245 cs (((((0 : Int32) + (n125 >>> ((0 : Int32) &&& 31)))) + ((1 : Int32) >>> ((0 : Int32) &&& 31)))) b92_112_119 k92_112_119 ((own_cp ((own_cp ([(.int (0 : Int32)), (.int (0 : Int32)), (.int (0 : Int32)), (.int (0 : Int32)), (.int (0 : Int32)), (.int (0 : Int32)), (.int (0 : Int32)), (.int (0 : Int32)), (.int (0 : Int32)), (.int (0 : Int32)), (.int (0 : Int32)), (.int (0 : Int32)), (.int (0 : Int32)), (.int (0 : Int32)), (.int (0 : Int32)), (.int (0 : Int32))]) ((0 : Int32) <<< ((0 : Int32) &&& 31)) l126 (0 : Int32) n125 (.int (0 : Int32)))) ((((0 : Int32) + (n125 >>> ((0 : Int32) &&& 31)))) <<< ((0 : Int32) &&& 31)) ([(.int (35 : Int32))]) (0 : Int32) (1 : Int32) (.int (0 : Int32)))) T238.heap n0 f253 f254 f258 f262 Z_S_COMPACT_STRINGS f246 hcs f263 P238_1 P238_2 P238_0 P238_3 f264 g160 ne185 g97 d_247 d_248 d_249 d_250 d_251 d_252) hZ223 (tw69 hw) (tw49 hw) (by decide) (by decide)) q265a q265c (g := (mkF m 23 #[.val (.ref b64)] [(.ref b6_61), (.ref b86)])) rfl (by rw [hml]; rfl) (Steps.refl _) (argsL := [(.ref b6_61)]) (rest := []) (lenOf pd_13 rfl) rfl (by show 2 * 0 + _ ≤ _; exact Nat.le_of_eq rfl) (hb hby d7_23) (fun _ _ => ⟨rfl, e243, (by decide : 4 + 0 ≤ _), (by decide : 28 + 0 ≤ _)⟩)
  dsimp only [Pt.U, Pt.locs, Pt.cells, Pt.slots] at X265 l265 y265 z265 st265 hQ265
  subst l265 y265 z265
  obtain ⟨rfl, N265q, K265, P265_0, P265_1, P265_2, P265_3⟩ := hQ265
  have N266 := Fr.app N239 N265q
  refine GoH.step (fun _ k => st265.trans k) ?_
  show GoH p e below s _ _ _ T265 (mkF m 26 #[.val (.ref b64)] [(.ref b86)])
  have f393 := (f246.keep K265 (allS g160 (allS g97 all0)))
  have f402 := (Nat.le_trans f253 K265.1)
  have f403 := (f264.keep K265)
  obtain ⟨cq404, kq404, q404a, q404b, q404c⟩ := isOf hZ223 rfl f403
  obtain ⟨_, _, ⟨T404, L404, k404, n404⟩, -, X404, ⟨Lc404, hQ404, l404, y404, z404⟩, st404⟩ := X265.virtualBack hx (y := xm15) (z := xm15) hown223 (mvT hZ223 (tw114 hw)) (mvT hZ223 (tw115 hw)) (notFace_of_selects (args := #[]) (mvT hZ223 (tw117 hw))) (mvT hZ223 (tw117 hw)) (mvT hZ223 (tw116 hw)) (by decide) (backOf (W := 0) (rm_StringBuilder_toString_0 l Z a0 hw [] b86 b92_112_119 (((((((0 : Int32) + (n125 >>> ((0 : Int32) &&& 31)))) + ((1 : Int32) >>> ((0 : Int32) &&& 31)))) + (n244 >>> ((0 : Int32) &&& 31)))) cs k92_112_119 ((own_cp ((own_cp ((own_cp ([(.int (0 : Int32)), (.int (0 : Int32)), (.int (0 : Int32)), (.int (0 : Int32)), (.int (0 : Int32)), (.int (0 : Int32)), (.int (0 : Int32)), (.int (0 : Int32)), (.int (0 : Int32)), (.int (0 : Int32)), (.int (0 : Int32)), (.int (0 : Int32)), (.int (0 : Int32)), (.int (0 : Int32)), (.int (0 : Int32)), (.int (0 : Int32))]) ((0 : Int32) <<< ((0 : Int32) &&& 31)) l126 (0 : Int32) n125 (.int (0 : Int32)))) ((((0 : Int32) + (n125 >>> ((0 : Int32) &&& 31)))) <<< ((0 : Int32) &&& 31)) ([(.int (35 : Int32))]) (0 : Int32) (1 : Int32) (.int (0 : Int32)))) ((((((0 : Int32) + (n125 >>> ((0 : Int32) &&& 31)))) + ((1 : Int32) >>> ((0 : Int32) &&& 31)))) <<< ((0 : Int32) &&& 31)) l245 (0 : Int32) n244 (.int (0 : Int32)))) T265.heap n0 f402 f403 P265_2 P265_1 Z_S_COMPACT_STRINGS f393 hcs P265_3 P265_0 d_394 d_395 d_396 d_397 d_398 d_399 d_400 d_401) hZ223 (tw118 hw) (tw49 hw) (by decide) (by decide)) q404a q404c (g := (mkF m 26 #[.val (.ref b64)] [(.ref b86)])) rfl (by rw [hml]; rfl) (Steps.refl _) (argsL := []) (rest := []) (lenOf pd_21 rfl) rfl (by show 2 * 0 + _ ≤ _; exact Nat.le_of_eq rfl) (hb hby d7_26) (fun _ _ => ⟨rfl, rfl, (by decide : 4 + 2 ≤ _), (by decide : 28 + 20 ≤ _)⟩)
  dsimp only [Pt.U, Pt.locs, Pt.cells, Pt.slots] at X404 l404 y404 z404 st404 hQ404
  subst l404 y404 z404
  obtain ⟨b267_404, b297_325_341_364_384_404, k297_325_341_364_384_404, rfl, N404q, K404, P404_0, P404_1, P404_2, P404_3, P404_4, P404_5, P404_6⟩ := hQ404
  have N405 := Fr.app N266 N404q
  refine GoH.step (fun _ k => st404.trans k) ?_
  show GoH p e below s _ _ _ T404 (mkF m 29 #[.val (.ref b64)] [(.ref b267_404)])
  have z406 := Nat.le_trans (Nat.le_refl _) (Nat.le_of_eq g86.symm)
  have f407 := (Nat.le_trans (Nat.le_refl _) E86.1)
  have z408 := Nat.le_trans f407 P119_3
  have f409 := ((((((((Keep.refl h0 []).ext E86).trans K119 (allS (Or.inr z406) all0)).trans K221 (allS (Or.inr z408) (allS (Or.inr z406) all0))).ext E223).trans K238 (allS (Or.inr z408) (allS (Or.inr z406) all0))).trans K265 (allS (Or.inr z408) (allS (Or.inr z406) all0))).trans K404 all0)
  have f410 := (Nat.le_trans (Nat.le_trans (Nat.le_trans (Nat.le_trans (Nat.le_trans f407 K119.1) K221.1) E223.1) K238.1) K265.1)
  have z411 := Nat.le_trans f410 P404_0
  have z412 := Nat.le_trans f410 P404_4
  have f413 := (Nat.le_trans (Nat.le_trans (Nat.le_trans hk223 K238.1) K265.1) K404.1)
  have f414 := (own_chK (own_chK (own_chK f226 K238 (sfS (own_safeL hZ223 (own_Nots hw _ (by decide)) f235) (sfS (Safe.exa hZ223.alike f237 (by decide) (by decide)) sf0))) K265 (sfS (own_safeL hZ223 (own_Nots hw _ (by decide)) P238_0) (sfS (Safe.exa hZ223.alike f264 (by decide) (by decide)) sf0))) K404 sf0)
  exact GoH.retA X404 hS223 hx hlk Bd.returns rfl rfl (hb hby d7_29) rfl f413 ⟨b267_404, b297_325_341_364_384_404, k297_325_341_364_384_404, rfl, N405, f409, z411, P404_1, P404_2, P404_3, z412, P404_5, P404_6⟩ (f414.trans (CHv.at X404 hZ223 (own_EW hw) f414.1)) (by decide) (by decide)

theorem ef_String_isLatin1_0 (m : MethodId) (x0 : Addr) : entryFrame m #[(.ref x0)] 1 = mkF m 0 #[.val (.ref x0)] [] := by first | (simp [entryFrame, mkF, argsToLocals, Value.category]; done) | rfl
def Q_String_isLatin1_0 (Z : State) (b267_404_431 : Addr) (cs : Int32) (h0 : Heap) (n0 : Nat) (v : Option Value) (h : Heap) (L : List Loc) : Prop := v = some (.int (1 : Int32)) ∧ Fr n0 L ∧ h = h0
set_option maxRecDepth 65536 in
set_option maxHeartbeats 40000000 in
theorem rm_String_isLatin1_0 (l : Launch) (Z : State) (a0 : Array Value) (hw : ∀ d ∈ tables_1, d.before a0 Z = true) (ws : List Jvm.Cond) (b267_404_431 : Addr) (cs : Int32) (h0 : Heap) (n0 : Nat) (Z0 : n0 ≤ h0.size) (Z_S_COMPACT_STRINGS : Sta Z Z.heap xs25 xs28 "Z" (.int cs)) (O0 : Old Z n0 h0) (hcs : ¬ cs = (0 : Int32)) (F_coder_b267_404_431 : Fld Z h0 b267_404_431 xs25 "coder" "B" (.int (0 : Int32))) :
    MetFree l xm11 (head1 (Jvm.Cond.code xm11 jdk_42_method_154_code 1 (some .boolean) :: ws) xr31) (fun a U => a = #[(.ref b267_404_431)] ∧ Z.Warmed39 U.vm ∧ U.heap = h0) (fun _ _ _ _ _ => True) (fun _ U o U' => ∃ v L, o = .returned v ∧ Q_String_isLatin1_0 Z b267_404_431 cs h0 n0 v U'.heap L ∧ FrameEnd U o U' L xr31.cells xr31.slots) := by
  refine MetFree.of_bodySF (plainFor_of_name pn_1) hisR ?_
  intro p e s m args below meth c s₁ Bd hml0 hP hK
  obtain ⟨rfl, hZ, hh⟩ := hP
  have hx := Bd.exec
  have hby := Bd.bytes
  have hlk : meth.locks = false := BodyLoose.notSynchronized Bd
  have hml : c.maxLocals = 1 := hml0
  have hown : s.vm.findClass xs25 = some m.cls := findClass_of_methodNamed Bd.named
  have hnm := (name_of_methodNamed Bd.named Bd.method).1
  have X0 : Stand p l e xr31 s m #[(.ref b267_404_431)] below meth c s₁ [] 0 0 := Stand.of_body Bd
  have e0 : s₁.heap = h0 := by rw [← hh, Bd.state]; rfl
  have N0 := Fr.nil n0
  show Go p e below s (Q_String_isLatin1_0 Z b267_404_431 cs h0 n0) xr31.cells xr31.slots s₁ (entryFrame m #[(.ref b267_404_431)] 1)
  refine Go.cast (ef_String_isLatin1_0 m b267_404_431) ?_
  show Go p e below s _ _ _ s₁ (mkF m 0 #[.val (.ref b267_404_431)] [])
  obtain ⟨T456, X456, e456, st456⟩ := getS2 X0 hx hZ hown (host := "") (Or.inl (tw85 hw)) Via.refl e0 (Z_S_COMPACT_STRINGS.ext O0.2) (g := (mkF m 0 #[.val (.ref b267_404_431)] [])) rfl (hb hby d31_0)
  refine Go.step (fun _ k => st456 _ (XS.ifNo X456.here hx rfl (hb hby d31_3) rfl ((if0 _ _).trans (feq hcs).1) (XS.aloadN X456.here hx rfl (hb hby d31_6) rfl rfl k))) ?_
  show Go p e below s _ _ _ T456 (mkF m 7 #[.val (.ref b267_404_431)] [(.ref b267_404_431)])
  obtain ⟨T457, X457, e457, st457⟩ := getF X456 hx hZ hown (host := "") (Or.inl (tw25 hw)) Via.refl e456 F_coder_b267_404_431 (g := (mkF m 7 #[.val (.ref b267_404_431)] [(.ref b267_404_431)])) rfl rfl (hb hby d31_7)
  refine Go.step (fun _ k => st457 _ (XS.ifNo X457.here hx rfl (hb hby d31_10) rfl ((if0 _ _).trans (teq (by decide)).2) (XS.iconst X457.here hx rfl (hb hby d31_13) (XS.goto X457.here hx rfl (pc0 := 14) (pc' := 18) rfl (hb hby d31_14) (by decide) (by decide) k)))) ?_
  show Go p e below s _ _ _ T457 (mkF m 18 #[.val (.ref b267_404_431)] [(.int (1 : Int32))])
  exact Go.retN X457 hx hlk (t := .boolean) Bd.returns (by simp) (hb hby d31_18) e457 ⟨rfl, N0, rfl⟩ (by decide) (by decide)

theorem ef_StringLatin1_charAt_0 (m : MethodId) (x0 : Addr) (x1 : Int32) : entryFrame m #[(.ref x0), (.int x1)] 2 = mkF m 0 #[.val (.ref x0), .val (.int x1)] [] := by first | (simp [entryFrame, mkF, argsToLocals, Value.category]; done) | rfl
def Q_StringLatin1_charAt_0 (Z : State) (b297_325_341_364_384_404_431 : Addr) (n442 : Int32) (k297_325_341_364_384_404_431 : ClassId) (n443 : Int32) (l444 : List Value) (fv : Value) (x466 : Int32) (h0 : Heap) (n0 : Nat) (v : Option Value) (h : Heap) (L : List Loc) : Prop := v = some (.int (nar .char ((x466 &&& (255 : Int32)).toUInt32.toUInt16.toUInt32.toInt32))) ∧ Fr n0 L ∧ h = h0
set_option maxRecDepth 65536 in
set_option maxHeartbeats 40000000 in
theorem rm_StringLatin1_charAt_0 (l : Launch) (Z : State) (a0 : Array Value) (hw : ∀ d ∈ tables_1, d.before a0 Z = true) (ws : List Jvm.Cond) (b297_325_341_364_384_404_431 : Addr) (n442 : Int32) (k297_325_341_364_384_404_431 : ClassId) (n443 : Int32) (l444 : List Value) (fv : Value) (x466 : Int32) (h0 : Heap) (n0 : Nat) (Z0 : n0 ≤ h0.size) (V_b297_325_341_364_384_404_431 : Arv Z h0 b297_325_341_364_384_404_431 k297_325_341_364_384_404_431 .byte n443 l444 (.int (0 : Int32))) (Z_S_SIOOBE_FORMATTER : Sta Z Z.heap xs8 xs24 xs9 fv) (hfv : fv.isRef = true) (d_462 : ¬ n442 < (0 : Int32)) (d_463 : n442 < n443) (O0 : Old Z n0 h0) (pk_471 : (l444 : List Value).getD (n442).toNatClampNeg (.int (0 : Int32)) = .int x466) :
    MetFree l xm8 (head1 (Jvm.Cond.code xm8 jdk_43_method_2_code 2 (some .char) :: ws) xr19) (fun a U => a = #[(.ref b297_325_341_364_384_404_431), (.int n442)] ∧ Z.Warmed39 U.vm ∧ U.heap = h0) (fun _ _ _ _ _ => True) (fun _ U o U' => ∃ v L, o = .returned v ∧ Q_StringLatin1_charAt_0 Z b297_325_341_364_384_404_431 n442 k297_325_341_364_384_404_431 n443 l444 fv x466 h0 n0 v U'.heap L ∧ FrameEnd U o U' L xr19.cells xr19.slots) := by
  refine MetFree.of_bodySF (plainFor_of_name pn_8) hisR ?_
  intro p e s m args below meth c s₁ Bd hml0 hP hK
  obtain ⟨rfl, hZ, hh⟩ := hP
  have hx := Bd.exec
  have hby := Bd.bytes
  have hlk : meth.locks = false := BodyLoose.notSynchronized Bd
  have hml : c.maxLocals = 2 := hml0
  have hown : s.vm.findClass xs17 = some m.cls := findClass_of_methodNamed Bd.named
  have hnm := (name_of_methodNamed Bd.named Bd.method).1
  have X0 : Stand p l e xr19 s m #[(.ref b297_325_341_364_384_404_431), (.int n442)] below meth c s₁ [] 0 0 := Stand.of_body Bd
  have e0 : s₁.heap = h0 := by rw [← hh, Bd.state]; rfl
  have N0 := Fr.nil n0
  show Go p e below s (Q_StringLatin1_charAt_0 Z b297_325_341_364_384_404_431 n442 k297_325_341_364_384_404_431 n443 l444 fv x466 h0 n0) xr19.cells xr19.slots s₁ (entryFrame m #[(.ref b297_325_341_364_384_404_431), (.int n442)] 2)
  refine Go.cast (ef_StringLatin1_charAt_0 m b297_325_341_364_384_404_431 n442) ?_
  show Go p e below s _ _ _ s₁ (mkF m 0 #[.val (.ref b297_325_341_364_384_404_431), .val (.int n442)] [])
  refine Go.step (fun _ k => XS.iloadN X0.here hx rfl (hb hby d32_0) rfl (XS.aloadN X0.here hx rfl (hb hby d32_1) rfl rfl k)) ?_
  show Go p e below s _ _ _ s₁ (mkF m 2 #[.val (.ref b297_325_341_364_384_404_431), .val (.int n442)] [(.ref b297_325_341_364_384_404_431), (.int n442)])
  obtain ⟨cl461, Ar461, -, Sz461, Ng461, -, -⟩ := id V_b297_325_341_364_384_404_431
  have aln461 := X0.arraylength hx (by rw [e0]; exact Ar461.1) (State.isArrayOf_alike hZ.alike Ar461.2.1) (g := (mkF m 2 #[.val (.ref b297_325_341_364_384_404_431), .val (.int n442)] [(.ref b297_325_341_364_384_404_431), (.int n442)])) rfl rfl (hb hby d32_2)
  rw [len_of Sz461 Ng461] at aln461
  refine Go.step (fun _ k => aln461 _ k) ?_
  show Go p e below s _ _ _ s₁ (mkF m 3 #[.val (.ref b297_325_341_364_384_404_431), .val (.int n442)] [(.int n443), (.int n442)])
  obtain ⟨_, _, ⟨T464, L464, k464, n464⟩, -, X464, ⟨Lc464, hQ464, l464, y464, z464⟩, st464⟩ := Jvm.LawKit.callS X0 hx (y := xm4) hown (mvT hZ (tw177 hw)) (mvT hZ (tw178 hw)) (mvT hZ (tw6 hw)) (mvT hZ (tw179 hw)) (by decide) (backOf (W := 0) (rm_schk l Z a0 hw [] n442 n443 fv h0 n0 Z0 O0 Z_S_SIOOBE_FORMATTER hfv d_462 d_463) hZ (tw179 hw) (tw6 hw) (by decide) (by decide)) (g := (mkF m 3 #[.val (.ref b297_325_341_364_384_404_431), .val (.int n442)] [(.int n443), (.int n442)])) rfl (by rw [hml]; rfl) (argsL := [(.int n442), (.int n443)]) (rest := []) (lenOf pd_16 rfl) rfl (by show 2 * 0 + _ ≤ _; exact Nat.le_of_eq rfl) (hb hby d32_3) (fun _ _ => ⟨rfl, e0, (by decide : 0 + 0 ≤ _), (by decide : 0 + 0 ≤ _)⟩)
  dsimp only [Pt.U, Pt.locs, Pt.cells, Pt.slots] at X464 l464 y464 z464 st464 hQ464
  subst l464 y464 z464
  obtain ⟨rfl, N464q, eq464⟩ := hQ464
  have N465 := Fr.app N0 N464q
  refine Go.step (fun _ k => st464 _ (XS.aloadN X464.here hx rfl (hb hby d32_6) rfl rfl (XS.iloadN X464.here hx rfl (hb hby d32_7) rfl k))) ?_
  show Go p e below s _ _ _ T464 (mkF m 8 #[.val (.ref b297_325_341_364_384_404_431), .val (.int n442)] [(.int n442), (.ref b297_325_341_364_384_404_431)])
  obtain ⟨cl472, Ar472, -, Sz472, Ng472, Hs472, Ft472⟩ := id V_b297_325_341_364_384_404_431
  have in472 : ¬ (n442 < 0 ∨ cl472.slots.size ≤ (n442).toNatClampNeg) := inb_of Sz472 ⟨d_462, d_463⟩
  have at472 : cl472.slots[(n442).toNatClampNeg]? = some (.int x466) := Hs472.at in472 pk_471
  refine Go.step (fun _ k => X464.baloadBytes hx (j := n442) (v := (.int x466)) (by rw [eq464]; exact Ar472.1) (State.isArrayOf_alike hZ.alike Ar472.2.1) Ar472.2.2 in472 at472 (g := (mkF m 8 #[.val (.ref b297_325_341_364_384_404_431), .val (.int n442)] [(.int n442), (.ref b297_325_341_364_384_404_431)])) rfl rfl (hb hby d32_8) _ (XS.sipush X464.here hx rfl (hb hby d32_9) (XS.iand X464.here hx rfl (hb hby d32_12) rfl (XS.i2c X464.here hx rfl (hb hby d32_13) rfl k)))) ?_
  show Go p e below s _ _ _ T464 (mkF m 14 #[.val (.ref b297_325_341_364_384_404_431), .val (.int n442)] [(.int ((x466 &&& (255 : Int32)).toUInt32.toUInt16.toUInt32.toInt32))])
  exact Go.retN X464 hx hlk (t := .char) Bd.returns (by simp) (hb hby d32_14) eq464 ⟨rfl, N465, rfl⟩ (by decide) (by decide)

theorem ef_String_charAt_0 (m : MethodId) (x0 : Addr) (x1 : Int32) : entryFrame m #[(.ref x0), (.int x1)] 2 = mkF m 0 #[.val (.ref x0), .val (.int x1)] [] := by first | (simp [entryFrame, mkF, argsToLocals, Value.category]; done) | rfl
def Q_String_charAt_0 (Z : State) (b267_404_431 : Addr) (n442 : Int32) (cs : Int32) (b297_325_341_364_384_404_431 : Addr) (k297_325_341_364_384_404_431 : ClassId) (n443 : Int32) (l444 : List Value) (fv : Value) (x467 : Int32) (h0 : Heap) (n0 : Nat) (v : Option Value) (h : Heap) (L : List Loc) : Prop := v = some (.int (nar .char (nar .char ((x467 &&& (255 : Int32)).toUInt32.toUInt16.toUInt32.toInt32)))) ∧ Fr n0 L ∧ h = h0
set_option maxRecDepth 65536 in
set_option maxHeartbeats 40000000 in
theorem rm_String_charAt_0 (l : Launch) (Z : State) (a0 : Array Value) (hw : ∀ d ∈ tables_1, d.before a0 Z = true) (ws : List Jvm.Cond) (b267_404_431 : Addr) (n442 : Int32) (cs : Int32) (b297_325_341_364_384_404_431 : Addr) (k297_325_341_364_384_404_431 : ClassId) (n443 : Int32) (l444 : List Value) (fv : Value) (x467 : Int32) (h0 : Heap) (n0 : Nat) (Z0 : n0 ≤ h0.size) (E_b267_404_431 : Exa Z h0 b267_404_431 xs25) (Z_S_COMPACT_STRINGS : Sta Z Z.heap xs25 xs28 "Z" (.int cs)) (O0 : Old Z n0 h0) (hcs : ¬ cs = (0 : Int32)) (F_coder_b267_404_431 : Fld Z h0 b267_404_431 xs25 "coder" "B" (.int (0 : Int32))) (F_value_b267_404_431 : Fld Z h0 b267_404_431 xs25 "value" "[B" (.ref b297_325_341_364_384_404_431)) (V_b297_325_341_364_384_404_431 : Arv Z h0 b297_325_341_364_384_404_431 k297_325_341_364_384_404_431 .byte n443 l444 (.int (0 : Int32))) (Z_S_SIOOBE_FORMATTER : Sta Z Z.heap xs8 xs24 xs9 fv) (hfv : fv.isRef = true) (pk_470 : (l444 : List Value).getD (n442).toNatClampNeg (.int (0 : Int32)) = .int x467) (d_473 : ¬ n442 < (0 : Int32)) (d_474 : n442 < n443) :
    MetFree l xm16 (head1 (Jvm.Cond.code xm16 jdk_42_method_56_code 2 (some .char) :: ws) xr20) (fun a U => a = #[(.ref b267_404_431), (.int n442)] ∧ Z.Warmed39 U.vm ∧ U.heap = h0) (fun _ _ _ _ _ => True) (fun _ U o U' => ∃ v L, o = .returned v ∧ Q_String_charAt_0 Z b267_404_431 n442 cs b297_325_341_364_384_404_431 k297_325_341_364_384_404_431 n443 l444 fv x467 h0 n0 v U'.heap L ∧ FrameEnd U o U' L xr20.cells xr20.slots) := by
  refine MetFree.of_bodySF (plainFor_of_name pn_1) hisR ?_
  intro p e s m args below meth c s₁ Bd hml0 hP hK
  obtain ⟨rfl, hZ, hh⟩ := hP
  have hx := Bd.exec
  have hby := Bd.bytes
  have hlk : meth.locks = false := BodyLoose.notSynchronized Bd
  have hml : c.maxLocals = 2 := hml0
  have hown : s.vm.findClass xs25 = some m.cls := findClass_of_methodNamed Bd.named
  have hnm := (name_of_methodNamed Bd.named Bd.method).1
  have X0 : Stand p l e xr20 s m #[(.ref b267_404_431), (.int n442)] below meth c s₁ [] 0 0 := Stand.of_body Bd
  have e0 : s₁.heap = h0 := by rw [← hh, Bd.state]; rfl
  have N0 := Fr.nil n0
  show Go p e below s (Q_String_charAt_0 Z b267_404_431 n442 cs b297_325_341_364_384_404_431 k297_325_341_364_384_404_431 n443 l444 fv x467 h0 n0) xr20.cells xr20.slots s₁ (entryFrame m #[(.ref b267_404_431), (.int n442)] 2)
  refine Go.cast (ef_String_charAt_0 m b267_404_431 n442) ?_
  show Go p e below s _ _ _ s₁ (mkF m 0 #[.val (.ref b267_404_431), .val (.int n442)] [])
  refine Go.step (fun _ k => XS.aloadN X0.here hx rfl (hb hby d30_0) rfl rfl k) ?_
  show Go p e below s _ _ _ s₁ (mkF m 1 #[.val (.ref b267_404_431), .val (.int n442)] [(.ref b267_404_431)])
  obtain ⟨cq458, kq458, q458a, q458b, q458c⟩ := isOf hZ e0 E_b267_404_431
  obtain ⟨_, _, ⟨T458, L458, k458, n458⟩, -, X458, ⟨Lc458, hQ458, l458, y458, z458⟩, st458⟩ := X0.virtualBack hx (y := xm11) (z := xm11) hown (mvT hZ (tw168 hw)) (mvT hZ (tw169 hw)) (notFace_of_selects (args := #[]) (mvT hZ (tw171 hw))) (mvT hZ (tw171 hw)) (mvT hZ (tw170 hw)) (by decide) (backOf (W := 0) (rm_String_isLatin1_0 l Z a0 hw [] b267_404_431 cs h0 n0 Z0 Z_S_COMPACT_STRINGS O0 hcs F_coder_b267_404_431) hZ (tw172 hw) (tw6 hw) (by decide) (by decide)) q458a q458c (g := (mkF m 1 #[.val (.ref b267_404_431), .val (.int n442)] [(.ref b267_404_431)])) rfl (by rw [hml]; rfl) (Steps.refl _) (argsL := []) (rest := []) (lenOf pd_15 rfl) rfl (by show 2 * 0 + _ ≤ _; exact Nat.le_of_eq rfl) (hb hby d30_1) (fun _ _ => ⟨rfl, e0, (by decide : 0 + 0 ≤ _), (by decide : 0 + 0 ≤ _)⟩)
  dsimp only [Pt.U, Pt.locs, Pt.cells, Pt.slots] at X458 l458 y458 z458 st458 hQ458
  subst l458 y458 z458
  obtain ⟨rfl, N458q, eq458⟩ := hQ458
  have N459 := Fr.app N0 N458q
  refine Go.step (fun _ k => st458.trans (XS.ifNo X458.here hx rfl (hb hby d30_4) rfl ((if0 _ _).trans (feq (by decide)).1) (XS.aloadN X458.here hx rfl (hb hby d30_7) rfl rfl k))) ?_
  show Go p e below s _ _ _ T458 (mkF m 8 #[.val (.ref b267_404_431), .val (.int n442)] [(.ref b267_404_431)])
  obtain ⟨T460, X460, e460, st460⟩ := getF X458 hx hZ hown (host := "") (Or.inl (tw24 hw)) Via.refl eq458 F_value_b267_404_431 (g := (mkF m 8 #[.val (.ref b267_404_431), .val (.int n442)] [(.ref b267_404_431)])) rfl rfl (hb hby d30_8)
  refine Go.step (fun _ k => st460 _ (XS.iloadN X460.here hx rfl (hb hby d30_11) rfl k)) ?_
  show Go p e below s _ _ _ T460 (mkF m 12 #[.val (.ref b267_404_431), .val (.int n442)] [(.int n442), (.ref b297_325_341_364_384_404_431)])
  obtain ⟨_, _, ⟨T475, L475, k475, n475⟩, -, X475, ⟨Lc475, hQ475, l475, y475, z475⟩, st475⟩ := Jvm.LawKit.callS X460 hx (y := xm8) hown (mvT hZ (tw173 hw)) (mvT hZ (tw174 hw)) (mvT hZ (tw175 hw)) (mvT hZ (tw176 hw)) (by decide) (backOf (W := 0) (rm_StringLatin1_charAt_0 l Z a0 hw [] b297_325_341_364_384_404_431 n442 k297_325_341_364_384_404_431 n443 l444 fv x467 h0 n0 Z0 V_b297_325_341_364_384_404_431 Z_S_SIOOBE_FORMATTER hfv d_473 d_474 O0 pk_470) hZ (tw176 hw) (tw175 hw) (by decide) (by decide)) (g := (mkF m 12 #[.val (.ref b267_404_431), .val (.int n442)] [(.int n442), (.ref b297_325_341_364_384_404_431)])) rfl (by rw [hml]; rfl) (argsL := [(.ref b297_325_341_364_384_404_431), (.int n442)]) (rest := []) (lenOf pd_22 rfl) rfl (by show 2 * 0 + _ ≤ _; exact Nat.le_of_eq rfl) (hb hby d30_12) (fun _ _ => ⟨rfl, e460, (by decide : 0 + 0 ≤ _), (by decide : 0 + 0 ≤ _)⟩)
  dsimp only [Pt.U, Pt.locs, Pt.cells, Pt.slots] at X475 l475 y475 z475 st475 hQ475
  subst l475 y475 z475
  obtain ⟨rfl, N475q, eq475⟩ := hQ475
  have N476 := Fr.app N459 N475q
  refine Go.step (fun _ k => st475 _ k) ?_
  show Go p e below s _ _ _ T475 (mkF m 15 #[.val (.ref b267_404_431), .val (.int n442)] [(.int (nar .char ((x467 &&& (255 : Int32)).toUInt32.toUInt16.toUInt32.toInt32)))])
  exact Go.retN X475 hx hlk (t := .char) Bd.returns (by simp) (hb hby d30_15) eq475 ⟨rfl, N476, rfl⟩ (by decide) (by decide)

theorem ef_SubjectSetTypeToStringPinLaw_ok_0 (m : MethodId) (x0 : Addr) (x1 : Addr) (x2 : Addr) (x3 : Int32) : entryFrame m #[(.ref x0), (.ref x1), (.ref x2), (.int x3)] 5 = mkF m 0 #[.val (.ref x0), .val (.ref x1), .val (.ref x2), .val (.int x3), .unset] [] := by first | (simp [entryFrame, mkF, argsToLocals, Value.category]; done) | rfl
def Q_SubjectSetTypeToStringPinLaw_ok_0 (Z : State) (b267_404_431 : Addr) (b6_57 : Addr) (b6_61 : Addr) (n442 : Int32) (b297_325_341_364_384_404_431 : Addr) (k297_325_341_364_384_404_431 : ClassId) (n443 : Int32) (l444 : List Value) (cs : Int32) (b13_41_49_57 : Addr) (kb13_41_49_57 : ClassId) (n448 : Int32) (l449 : List Value) (fv : Value) (x468 : Int32) (h0 : Heap) (n0 : Nat) (v : Option Value) (h : Heap) (L : List Loc) : Prop := v = some (.int (1 : Int32)) ∧ Fr n0 L ∧ h = h0
set_option maxRecDepth 65536 in
set_option maxHeartbeats 40000000 in
theorem rm_SubjectSetTypeToStringPinLaw_ok_0 (l : Launch) (Z : State) (a0 : Array Value) (hw : ∀ d ∈ tables_1, d.before a0 Z = true) (ws : List Jvm.Cond) (b267_404_431 : Addr) (b6_57 : Addr) (b6_61 : Addr) (n442 : Int32) (b297_325_341_364_384_404_431 : Addr) (k297_325_341_364_384_404_431 : ClassId) (n443 : Int32) (l444 : List Value) (cs : Int32) (b13_41_49_57 : Addr) (kb13_41_49_57 : ClassId) (n448 : Int32) (l449 : List Value) (fv : Value) (x468 : Int32) (h0 : Heap) (n0 : Nat) (Z0 : n0 ≤ h0.size) (E_b267_404_431 : Exa Z h0 b267_404_431 xs25) (F_value_b267_404_431 : Fld Z h0 b267_404_431 xs25 "value" "[B" (.ref b297_325_341_364_384_404_431)) (V_b297_325_341_364_384_404_431 : Arv Z h0 b297_325_341_364_384_404_431 k297_325_341_364_384_404_431 .byte n443 l444 (.int (0 : Int32))) (F_coder_b267_404_431 : Fld Z h0 b267_404_431 xs25 "coder" "B" (.int (0 : Int32))) (Z_S_COMPACT_STRINGS : Sta Z Z.heap xs25 xs28 "Z" (.int cs)) (O0 : Old Z n0 h0) (hcs : ¬ cs = (0 : Int32)) (d_447 : n442 < (n443 >>> ((0 : Int32) &&& 31))) (E_b6_57 : Exa Z h0 b6_57 xs25) (F_value_b6_57 : Fld Z h0 b6_57 xs25 "value" "[B" (.ref b13_41_49_57)) (V_b13_41_49_57 : Arv Z h0 b13_41_49_57 kb13_41_49_57 .byte n448 l449 (.int (0 : Int32))) (F_coder_b6_57 : Fld Z h0 b6_57 xs25 "coder" "B" (.int (0 : Int32))) (d_452 : ¬ n442 < (n448 >>> ((0 : Int32) &&& 31))) (d_455 : n442 = (n448 >>> ((0 : Int32) &&& 31))) (Z_S_SIOOBE_FORMATTER : Sta Z Z.heap xs8 xs24 xs9 fv) (hfv : fv.isRef = true) (pk_469 : (l444 : List Value).getD (n442).toNatClampNeg (.int (0 : Int32)) = .int x468) (d_477 : ¬ n442 < (0 : Int32)) (d_478 : n442 < n443) (d_481 : (nar .char (nar .char ((x468 &&& (255 : Int32)).toUInt32.toUInt16.toUInt32.toInt32))) = (35 : Int32)) :
    MetFree l xm35 (head1 (Jvm.Cond.code xm35 method_4_code 5 (some .boolean) :: ws) xr21) (fun a U => a = #[(.ref b267_404_431), (.ref b6_57), (.ref b6_61), (.int n442)] ∧ Z.Warmed39 U.vm ∧ U.heap = h0) (fun _ _ _ _ _ => True) (fun _ U o U' => ∃ v L, o = .returned v ∧ Q_SubjectSetTypeToStringPinLaw_ok_0 Z b267_404_431 b6_57 b6_61 n442 b297_325_341_364_384_404_431 k297_325_341_364_384_404_431 n443 l444 cs b13_41_49_57 kb13_41_49_57 n448 l449 fv x468 h0 n0 v U'.heap L ∧ FrameEnd U o U' L xr21.cells xr21.slots) := by
  refine MetFree.of_bodySF (plainFor_of_name pn_2) hisR ?_
  intro p e s m args below meth c s₁ Bd hml0 hP hK
  obtain ⟨rfl, hZ, hh⟩ := hP
  have hx := Bd.exec
  have hby := Bd.bytes
  have hlk : meth.locks = false := BodyLoose.notSynchronized Bd
  have hml : c.maxLocals = 5 := hml0
  have hown : s.vm.findClass xs0 = some m.cls := findClass_of_methodNamed Bd.named
  have hnm := (name_of_methodNamed Bd.named Bd.method).1
  have X0 : Stand p l e xr21 s m #[(.ref b267_404_431), (.ref b6_57), (.ref b6_61), (.int n442)] below meth c s₁ [] 0 0 := Stand.of_body Bd
  have e0 : s₁.heap = h0 := by rw [← hh, Bd.state]; rfl
  have N0 := Fr.nil n0
  show Go p e below s (Q_SubjectSetTypeToStringPinLaw_ok_0 Z b267_404_431 b6_57 b6_61 n442 b297_325_341_364_384_404_431 k297_325_341_364_384_404_431 n443 l444 cs b13_41_49_57 kb13_41_49_57 n448 l449 fv x468 h0 n0) xr21.cells xr21.slots s₁ (entryFrame m #[(.ref b267_404_431), (.ref b6_57), (.ref b6_61), (.int n442)] 5)
  refine Go.cast (ef_SubjectSetTypeToStringPinLaw_ok_0 m b267_404_431 b6_57 b6_61 n442) ?_
  show Go p e below s _ _ _ s₁ (mkF m 0 #[.val (.ref b267_404_431), .val (.ref b6_57), .val (.ref b6_61), .val (.int n442), .unset] [])
  refine Go.step (fun _ k => XS.iloadN X0.here hx rfl (hb hby d29_0) rfl (XS.aloadN X0.here hx rfl (hb hby d29_1) rfl rfl k)) ?_
  show Go p e below s _ _ _ s₁ (mkF m 2 #[.val (.ref b267_404_431), .val (.ref b6_57), .val (.ref b6_61), .val (.int n442), .unset] [(.ref b267_404_431), (.int n442)])
  obtain ⟨cq445, kq445, q445a, q445b, q445c⟩ := isOf hZ e0 E_b267_404_431
  obtain ⟨_, _, ⟨T445, L445, k445, n445⟩, -, X445, ⟨Lc445, hQ445, l445, y445, z445⟩, st445⟩ := X0.virtualBack hx (y := xm19) (z := xm19) hown (mvT hZ (tw159 hw)) (mvT hZ (tw76 hw)) (notFace_of_selects (args := #[]) (mvT hZ (tw78 hw))) (mvT hZ (tw78 hw)) (mvT hZ (tw77 hw)) (by decide) (backOf (W := 1) (rm_String_length_0 l Z a0 hw [] b267_404_431 b297_325_341_364_384_404_431 k297_325_341_364_384_404_431 n443 l444 cs h0 n0 Z0 F_value_b267_404_431 V_b297_325_341_364_384_404_431 E_b267_404_431 Z_S_COMPACT_STRINGS O0 hcs F_coder_b267_404_431) hZ (tw79 hw) (tw6 hw) (by decide) (by decide)) q445a q445c (g := (mkF m 2 #[.val (.ref b267_404_431), .val (.ref b6_57), .val (.ref b6_61), .val (.int n442), .unset] [(.ref b267_404_431), (.int n442)])) rfl (by rw [hml]; rfl) (Steps.refl _) (argsL := []) (rest := [(.int n442)]) (lenOf pd_8 rfl) rfl (by show 2 * 0 + _ ≤ _; exact Nat.le_of_eq rfl) (hb hby d29_2) (fun _ _ => ⟨rfl, e0, (by decide : 0 + 0 ≤ _), (by decide : 0 + 0 ≤ _)⟩)
  dsimp only [Pt.U, Pt.locs, Pt.cells, Pt.slots] at X445 l445 y445 z445 st445 hQ445
  subst l445 y445 z445
  obtain ⟨rfl, N445q, eq445⟩ := hQ445
  have N446 := Fr.app N0 N445q
  refine Go.step (fun _ k => st445.trans (XS.icmpYes X445.here hx rfl (pc0 := 5) (pc' := 10) rfl (hb hby d29_5) rfl (tlt d_447).1 (by decide) (by decide) (XS.iloadN X445.here hx rfl (hb hby d29_10) rfl (XS.aloadN X445.here hx rfl (hb hby d29_11) rfl rfl k)))) ?_
  show Go p e below s _ _ _ T445 (mkF m 12 #[.val (.ref b267_404_431), .val (.ref b6_57), .val (.ref b6_61), .val (.int n442), .unset] [(.ref b6_57), (.int n442)])
  obtain ⟨cq450, kq450, q450a, q450b, q450c⟩ := isOf hZ eq445 E_b6_57
  obtain ⟨_, _, ⟨T450, L450, k450, n450⟩, -, X450, ⟨Lc450, hQ450, l450, y450, z450⟩, st450⟩ := X445.virtualBack hx (y := xm19) (z := xm19) hown (mvT hZ (tw159 hw)) (mvT hZ (tw76 hw)) (notFace_of_selects (args := #[]) (mvT hZ (tw78 hw))) (mvT hZ (tw78 hw)) (mvT hZ (tw77 hw)) (by decide) (backOf (W := 1) (rm_String_length_0 l Z a0 hw [] b6_57 b13_41_49_57 kb13_41_49_57 n448 l449 cs h0 n0 Z0 F_value_b6_57 V_b13_41_49_57 E_b6_57 Z_S_COMPACT_STRINGS O0 hcs F_coder_b6_57) hZ (tw79 hw) (tw6 hw) (by decide) (by decide)) q450a q450c (g := (mkF m 12 #[.val (.ref b267_404_431), .val (.ref b6_57), .val (.ref b6_61), .val (.int n442), .unset] [(.ref b6_57), (.int n442)])) rfl (by rw [hml]; rfl) (Steps.refl _) (argsL := []) (rest := [(.int n442)]) (lenOf pd_8 rfl) rfl (by show 2 * 0 + _ ≤ _; exact Nat.le_of_eq rfl) (hb hby d29_12) (fun _ _ => ⟨rfl, eq445, (by decide : 0 + 0 ≤ _), (by decide : 0 + 0 ≤ _)⟩)
  dsimp only [Pt.U, Pt.locs, Pt.cells, Pt.slots] at X450 l450 y450 z450 st450 hQ450
  subst l450 y450 z450
  obtain ⟨rfl, N450q, eq450⟩ := hQ450
  have N451 := Fr.app N446 N450q
  refine Go.step (fun _ k => st450.trans (XS.icmpYes X450.here hx rfl (pc0 := 15) (pc' := 28) rfl (hb hby d29_15) rfl (flt d_452).2.1 (by decide) (by decide) (XS.iloadN X450.here hx rfl (hb hby d29_28) rfl (XS.aloadN X450.here hx rfl (hb hby d29_29) rfl rfl k)))) ?_
  show Go p e below s _ _ _ T450 (mkF m 30 #[.val (.ref b267_404_431), .val (.ref b6_57), .val (.ref b6_61), .val (.int n442), .unset] [(.ref b6_57), (.int n442)])
  obtain ⟨cq453, kq453, q453a, q453b, q453c⟩ := isOf hZ eq450 E_b6_57
  obtain ⟨_, _, ⟨T453, L453, k453, n453⟩, -, X453, ⟨Lc453, hQ453, l453, y453, z453⟩, st453⟩ := X450.virtualBack hx (y := xm19) (z := xm19) hown (mvT hZ (tw159 hw)) (mvT hZ (tw76 hw)) (notFace_of_selects (args := #[]) (mvT hZ (tw78 hw))) (mvT hZ (tw78 hw)) (mvT hZ (tw77 hw)) (by decide) (backOf (W := 1) (rm_String_length_0 l Z a0 hw [] b6_57 b13_41_49_57 kb13_41_49_57 n448 l449 cs h0 n0 Z0 F_value_b6_57 V_b13_41_49_57 E_b6_57 Z_S_COMPACT_STRINGS O0 hcs F_coder_b6_57) hZ (tw79 hw) (tw6 hw) (by decide) (by decide)) q453a q453c (g := (mkF m 30 #[.val (.ref b267_404_431), .val (.ref b6_57), .val (.ref b6_61), .val (.int n442), .unset] [(.ref b6_57), (.int n442)])) rfl (by rw [hml]; rfl) (Steps.refl _) (argsL := []) (rest := [(.int n442)]) (lenOf pd_8 rfl) rfl (by show 2 * 0 + _ ≤ _; exact Nat.le_of_eq rfl) (hb hby d29_30) (fun _ _ => ⟨rfl, eq450, (by decide : 0 + 0 ≤ _), (by decide : 0 + 0 ≤ _)⟩)
  dsimp only [Pt.U, Pt.locs, Pt.cells, Pt.slots] at X453 l453 y453 z453 st453 hQ453
  subst l453 y453 z453
  obtain ⟨rfl, N453q, eq453⟩ := hQ453
  have N454 := Fr.app N451 N453q
  refine Go.step (fun _ k => st453.trans (XS.icmpNo X453.here hx rfl (hb hby d29_33) rfl (teq d_455).2 (XS.bipush X453.here hx rfl (hb hby d29_36) (XS.istore X453.here hx rfl (hb hby d29_38) rfl (l' := #[.val (.ref b267_404_431), .val (.ref b6_57), .val (.ref b6_61), .val (.int n442), .val (.int (35 : Int32))]) rfl (XS.goto X453.here hx rfl (pc0 := 40) (pc' := 57) rfl (hb hby d29_40) (by decide) (by decide) (XS.aloadN X453.here hx rfl (hb hby d29_57) rfl rfl (XS.iloadN X453.here hx rfl (hb hby d29_58) rfl k))))))) ?_
  show Go p e below s _ _ _ T453 (mkF m 59 #[.val (.ref b267_404_431), .val (.ref b6_57), .val (.ref b6_61), .val (.int n442), .val (.int (35 : Int32))] [(.int n442), (.ref b267_404_431)])
  obtain ⟨cq479, kq479, q479a, q479b, q479c⟩ := isOf hZ eq453 E_b267_404_431
  obtain ⟨_, _, ⟨T479, L479, k479, n479⟩, -, X479, ⟨Lc479, hQ479, l479, y479, z479⟩, st479⟩ := X453.virtualBack hx (y := xm16) (z := xm16) hown (mvT hZ (tw163 hw)) (mvT hZ (tw164 hw)) (notFace_of_selects (args := #[]) (mvT hZ (tw166 hw))) (mvT hZ (tw166 hw)) (mvT hZ (tw165 hw)) (by decide) (backOf (W := 0) (rm_String_charAt_0 l Z a0 hw [] b267_404_431 n442 cs b297_325_341_364_384_404_431 k297_325_341_364_384_404_431 n443 l444 fv x468 h0 n0 Z0 E_b267_404_431 Z_S_COMPACT_STRINGS O0 hcs F_coder_b267_404_431 F_value_b267_404_431 V_b297_325_341_364_384_404_431 Z_S_SIOOBE_FORMATTER hfv pk_469 d_477 d_478) hZ (tw167 hw) (tw6 hw) (by decide) (by decide)) q479a q479c (g := (mkF m 59 #[.val (.ref b267_404_431), .val (.ref b6_57), .val (.ref b6_61), .val (.int n442), .val (.int (35 : Int32))] [(.int n442), (.ref b267_404_431)])) rfl (by rw [hml]; rfl) (Steps.refl _) (argsL := [(.int n442)]) (rest := []) (lenOf pd_23 rfl) rfl (by show 2 * 0 + _ ≤ _; exact Nat.le_of_eq rfl) (hb hby d29_59) (fun _ _ => ⟨rfl, eq453, (by decide : 0 + 0 ≤ _), (by decide : 0 + 0 ≤ _)⟩)
  dsimp only [Pt.U, Pt.locs, Pt.cells, Pt.slots] at X479 l479 y479 z479 st479 hQ479
  subst l479 y479 z479
  obtain ⟨rfl, N479q, eq479⟩ := hQ479
  have N480 := Fr.app N454 N479q
  refine Go.step (fun _ k => st479.trans (XS.iload X479.here hx rfl (hb hby d29_62) rfl (XS.icmpNo X479.here hx rfl (hb hby d29_64) rfl (teq d_481).2 (XS.iconst X479.here hx rfl (hb hby d29_67) (XS.goto X479.here hx rfl (pc0 := 68) (pc' := 72) rfl (hb hby d29_68) (by decide) (by decide) k))))) ?_
  show Go p e below s _ _ _ T479 (mkF m 72 #[.val (.ref b267_404_431), .val (.ref b6_57), .val (.ref b6_61), .val (.int n442), .val (.int (35 : Int32))] [(.int (1 : Int32))])
  exact Go.retN X479 hx hlk (t := .boolean) Bd.returns (by simp) (hb hby d29_72) eq479 ⟨rfl, N480, rfl⟩ (by decide) (by decide)

theorem ef_SubjectSetTypeToStringPinLaw_ok_1 (m : MethodId) (x0 : Addr) (x1 : Addr) (x2 : Addr) (x3 : Int32) : entryFrame m #[(.ref x0), (.ref x1), (.ref x2), (.int x3)] 5 = mkF m 0 #[.val (.ref x0), .val (.ref x1), .val (.ref x2), .val (.int x3), .unset] [] := by first | (simp [entryFrame, mkF, argsToLocals, Value.category]; done) | rfl
def Q_SubjectSetTypeToStringPinLaw_ok_1 (Z : State) (b267_404_431 : Addr) (b6_57 : Addr) (b6_61 : Addr) (n488 : Int32) (b297_325_341_364_384_404_431 : Addr) (k297_325_341_364_384_404_431 : ClassId) (n489 : Int32) (l490 : List Value) (cs : Int32) (h0 : Heap) (n0 : Nat) (v : Option Value) (h : Heap) (L : List Loc) : Prop := v = some (.int (1 : Int32)) ∧ Fr n0 L ∧ h = h0
set_option maxRecDepth 65536 in
set_option maxHeartbeats 40000000 in
theorem rm_SubjectSetTypeToStringPinLaw_ok_1 (l : Launch) (Z : State) (a0 : Array Value) (hw : ∀ d ∈ tables_1, d.before a0 Z = true) (ws : List Jvm.Cond) (b267_404_431 : Addr) (b6_57 : Addr) (b6_61 : Addr) (n488 : Int32) (b297_325_341_364_384_404_431 : Addr) (k297_325_341_364_384_404_431 : ClassId) (n489 : Int32) (l490 : List Value) (cs : Int32) (h0 : Heap) (n0 : Nat) (Z0 : n0 ≤ h0.size) (E_b267_404_431 : Exa Z h0 b267_404_431 xs25) (F_value_b267_404_431 : Fld Z h0 b267_404_431 xs25 "value" "[B" (.ref b297_325_341_364_384_404_431)) (V_b297_325_341_364_384_404_431 : Arv Z h0 b297_325_341_364_384_404_431 k297_325_341_364_384_404_431 .byte n489 l490 (.int (0 : Int32))) (F_coder_b267_404_431 : Fld Z h0 b267_404_431 xs25 "coder" "B" (.int (0 : Int32))) (Z_S_COMPACT_STRINGS : Sta Z Z.heap xs25 xs28 "Z" (.int cs)) (O0 : Old Z n0 h0) (hcs : ¬ cs = (0 : Int32)) (d_493 : ¬ n488 < (n489 >>> ((0 : Int32) &&& 31))) :
    MetFree l xm35 (head1 (Jvm.Cond.code xm35 method_4_code 5 (some .boolean) :: ws) xr22) (fun a U => a = #[(.ref b267_404_431), (.ref b6_57), (.ref b6_61), (.int n488)] ∧ Z.Warmed39 U.vm ∧ U.heap = h0) (fun _ _ _ _ _ => True) (fun _ U o U' => ∃ v L, o = .returned v ∧ Q_SubjectSetTypeToStringPinLaw_ok_1 Z b267_404_431 b6_57 b6_61 n488 b297_325_341_364_384_404_431 k297_325_341_364_384_404_431 n489 l490 cs h0 n0 v U'.heap L ∧ FrameEnd U o U' L xr22.cells xr22.slots) := by
  refine MetFree.of_bodySF (plainFor_of_name pn_2) hisR ?_
  intro p e s m args below meth c s₁ Bd hml0 hP hK
  obtain ⟨rfl, hZ, hh⟩ := hP
  have hx := Bd.exec
  have hby := Bd.bytes
  have hlk : meth.locks = false := BodyLoose.notSynchronized Bd
  have hml : c.maxLocals = 5 := hml0
  have hown : s.vm.findClass xs0 = some m.cls := findClass_of_methodNamed Bd.named
  have hnm := (name_of_methodNamed Bd.named Bd.method).1
  have X0 : Stand p l e xr22 s m #[(.ref b267_404_431), (.ref b6_57), (.ref b6_61), (.int n488)] below meth c s₁ [] 0 0 := Stand.of_body Bd
  have e0 : s₁.heap = h0 := by rw [← hh, Bd.state]; rfl
  have N0 := Fr.nil n0
  show Go p e below s (Q_SubjectSetTypeToStringPinLaw_ok_1 Z b267_404_431 b6_57 b6_61 n488 b297_325_341_364_384_404_431 k297_325_341_364_384_404_431 n489 l490 cs h0 n0) xr22.cells xr22.slots s₁ (entryFrame m #[(.ref b267_404_431), (.ref b6_57), (.ref b6_61), (.int n488)] 5)
  refine Go.cast (ef_SubjectSetTypeToStringPinLaw_ok_1 m b267_404_431 b6_57 b6_61 n488) ?_
  show Go p e below s _ _ _ s₁ (mkF m 0 #[.val (.ref b267_404_431), .val (.ref b6_57), .val (.ref b6_61), .val (.int n488), .unset] [])
  refine Go.step (fun _ k => XS.iloadN X0.here hx rfl (hb hby d29_0) rfl (XS.aloadN X0.here hx rfl (hb hby d29_1) rfl rfl k)) ?_
  show Go p e below s _ _ _ s₁ (mkF m 2 #[.val (.ref b267_404_431), .val (.ref b6_57), .val (.ref b6_61), .val (.int n488), .unset] [(.ref b267_404_431), (.int n488)])
  obtain ⟨cq491, kq491, q491a, q491b, q491c⟩ := isOf hZ e0 E_b267_404_431
  obtain ⟨_, _, ⟨T491, L491, k491, n491⟩, -, X491, ⟨Lc491, hQ491, l491, y491, z491⟩, st491⟩ := X0.virtualBack hx (y := xm19) (z := xm19) hown (mvT hZ (tw159 hw)) (mvT hZ (tw76 hw)) (notFace_of_selects (args := #[]) (mvT hZ (tw78 hw))) (mvT hZ (tw78 hw)) (mvT hZ (tw77 hw)) (by decide) (backOf (W := 1) (rm_String_length_0 l Z a0 hw [] b267_404_431 b297_325_341_364_384_404_431 k297_325_341_364_384_404_431 n489 l490 cs h0 n0 Z0 F_value_b267_404_431 V_b297_325_341_364_384_404_431 E_b267_404_431 Z_S_COMPACT_STRINGS O0 hcs F_coder_b267_404_431) hZ (tw79 hw) (tw6 hw) (by decide) (by decide)) q491a q491c (g := (mkF m 2 #[.val (.ref b267_404_431), .val (.ref b6_57), .val (.ref b6_61), .val (.int n488), .unset] [(.ref b267_404_431), (.int n488)])) rfl (by rw [hml]; rfl) (Steps.refl _) (argsL := []) (rest := [(.int n488)]) (lenOf pd_8 rfl) rfl (by show 2 * 0 + _ ≤ _; exact Nat.le_of_eq rfl) (hb hby d29_2) (fun _ _ => ⟨rfl, e0, (by decide : 0 + 0 ≤ _), (by decide : 0 + 0 ≤ _)⟩)
  dsimp only [Pt.U, Pt.locs, Pt.cells, Pt.slots] at X491 l491 y491 z491 st491 hQ491
  subst l491 y491 z491
  obtain ⟨rfl, N491q, eq491⟩ := hQ491
  have N492 := Fr.app N0 N491q
  refine Go.step (fun _ k => st491.trans (XS.icmpNo X491.here hx rfl (hb hby d29_5) rfl (flt d_493).1 (XS.iconst X491.here hx rfl (hb hby d29_8) k))) ?_
  show Go p e below s _ _ _ T491 (mkF m 9 #[.val (.ref b267_404_431), .val (.ref b6_57), .val (.ref b6_61), .val (.int n488), .unset] [(.int (1 : Int32))])
  exact Go.retN X491 hx hlk (t := .boolean) Bd.returns (by simp) (hb hby d29_9) eq491 ⟨rfl, N492, rfl⟩ (by decide) (by decide)

theorem ef_StringUTF16_compress_1 (m : MethodId) (x0 : Addr) (x1 : Int32) (x2 : Addr) (x3 : Int32) (x4 : Int32) : entryFrame m #[(.ref x0), (.int x1), (.ref x2), (.int x3), (.int x4)] 7 = mkF m 0 #[.val (.ref x0), .val (.int x1), .val (.ref x2), .val (.int x3), .val (.int x4), .unset, .unset] [] := by first | (simp [entryFrame, mkF, argsToLocals, Value.category]; done) | rfl
def Q_StringUTF16_compress_1 (Z : State) (b505 : Addr) (b516 : Addr) (k505 : ClassId) (v512 : Int32) (k516 : ClassId) (h0 : Heap) (n0 : Nat) (v : Option Value) (h : Heap) (L : List Loc) : Prop := v = some (.int (1 : Int32)) ∧ Fr n0 L ∧ Keep h0 h [b516] ∧ Arv Z h b516 k516 .byte (1 : Int32) [(.int (nar .byte (v512.toInt8.toInt32)))] (.int (0 : Int32))
set_option maxRecDepth 65536 in
set_option maxHeartbeats 40000000 in
theorem rm_StringUTF16_compress_1 (l : Launch) (Z : State) (a0 : Array Value) (hw : ∀ d ∈ tables_1, d.before a0 Z = true) (ws : List Jvm.Cond) (b505 : Addr) (b516 : Addr) (k505 : ClassId) (v512 : Int32) (k516 : ClassId) (h0 : Heap) (n0 : Nat) (Z0 : n0 ≤ h0.size) (V_b505 : Arv Z h0 b505 k505 .char (1 : Int32) [(.int v512)] (.int (0 : Int32))) (hc2 : ¬ (255 : Int32) < v512) (V_b516 : Arv Z h0 b516 k516 .byte (1 : Int32) [(.int (0 : Int32))] (.int (0 : Int32))) (g_b516 : n0 ≤ b516) :
    MetFree l xm1 (head1 (Jvm.Cond.code xm1 jdk_52_method_21_code 7 (some .int) :: ws) xr31) (fun a U => a = #[(.ref b505), (.int (0 : Int32)), (.ref b516), (.int (0 : Int32)), (.int (1 : Int32))] ∧ Z.Warmed39 U.vm ∧ U.heap = h0) (fun _ _ _ _ _ => True) (fun _ U o U' => ∃ v L, o = .returned v ∧ Q_StringUTF16_compress_1 Z b505 b516 k505 v512 k516 h0 n0 v U'.heap L ∧ FrameEnd U o U' L xr31.cells xr31.slots) := by
  refine MetFree.of_bodySF (plainFor_of_name pn_9) hisR ?_
  intro p e s m args below meth c s₁ Bd hml0 hP hK
  obtain ⟨rfl, hZ, hh⟩ := hP
  have hx := Bd.exec
  have hby := Bd.bytes
  have hlk : meth.locks = false := BodyLoose.notSynchronized Bd
  have hml : c.maxLocals = 7 := hml0
  have hown : s.vm.findClass xs19 = some m.cls := findClass_of_methodNamed Bd.named
  have hnm := (name_of_methodNamed Bd.named Bd.method).1
  have X0 : Stand p l e xr31 s m #[(.ref b505), (.int (0 : Int32)), (.ref b516), (.int (0 : Int32)), (.int (1 : Int32))] below meth c s₁ [] 0 0 := Stand.of_body Bd
  have e0 : s₁.heap = h0 := by rw [← hh, Bd.state]; rfl
  have N0 := Fr.nil n0
  show Go p e below s (Q_StringUTF16_compress_1 Z b505 b516 k505 v512 k516 h0 n0) xr31.cells xr31.slots s₁ (entryFrame m #[(.ref b505), (.int (0 : Int32)), (.ref b516), (.int (0 : Int32)), (.int (1 : Int32))] 7)
  refine Go.cast (ef_StringUTF16_compress_1 m b505 (0 : Int32) b516 (0 : Int32) (1 : Int32)) ?_
  show Go p e below s _ _ _ s₁ (mkF m 0 #[.val (.ref b505), .val (.int (0 : Int32)), .val (.ref b516), .val (.int (0 : Int32)), .val (.int (1 : Int32)), .unset, .unset] [])
  refine Go.step (fun _ k => XS.iconst X0.here hx rfl (hb hby d34_0) (XS.istore X0.here hx rfl (hb hby d34_1) rfl (l' := #[.val (.ref b505), .val (.int (0 : Int32)), .val (.ref b516), .val (.int (0 : Int32)), .val (.int (1 : Int32)), .val (.int (0 : Int32)), .unset]) rfl (XS.iload X0.here hx rfl (hb hby d34_3) rfl (XS.iload X0.here hx rfl (hb hby d34_5) rfl (XS.icmpNo X0.here hx rfl (hb hby d34_7) rfl (tlt (by decide)).2.1 (XS.aloadN X0.here hx rfl (hb hby d34_10) rfl rfl (XS.iloadN X0.here hx rfl (hb hby d34_11) rfl k))))))) ?_
  show Go p e below s _ _ _ s₁ (mkF m 12 #[.val (.ref b505), .val (.int (0 : Int32)), .val (.ref b516), .val (.int (0 : Int32)), .val (.int (1 : Int32)), .val (.int (0 : Int32)), .unset] [(.int (0 : Int32)), (.ref b505)])
  obtain ⟨cl518, Ar518, -, Sz518, Ng518, Hs518, Ft518⟩ := id V_b505
  have in518 : ¬ ((0 : Int32) < 0 ∨ cl518.slots.size ≤ ((0 : Int32)).toNatClampNeg) := (inb_of Sz518 ⟨by decide, by decide⟩)
  have at518 : cl518.slots[((0 : Int32)).toNatClampNeg]? = some (.int v512) := Hs518.at in518 rfl
  refine Go.step (fun _ k => X0.caload hx (j := (0 : Int32)) (v := (.int v512)) (by rw [e0]; exact Ar518.1) (State.isArrayOf_alike hZ.alike Ar518.2.1) Ar518.2.2 in518 at518 (g := (mkF m 12 #[.val (.ref b505), .val (.int (0 : Int32)), .val (.ref b516), .val (.int (0 : Int32)), .val (.int (1 : Int32)), .val (.int (0 : Int32)), .unset] [(.int (0 : Int32)), (.ref b505)])) rfl rfl (hb hby d34_12) _ (XS.istore X0.here hx rfl (hb hby d34_13) rfl (l' := #[.val (.ref b505), .val (.int (0 : Int32)), .val (.ref b516), .val (.int (0 : Int32)), .val (.int (1 : Int32)), .val (.int (0 : Int32)), .val (.int v512)]) rfl (XS.iload X0.here hx rfl (hb hby d34_15) rfl (XS.sipush X0.here hx rfl (hb hby d34_17) (XS.icmpYes X0.here hx rfl (pc0 := 20) (pc' := 26) rfl (hb hby d34_20) rfl (flt hc2).2.2.2 (by decide) (by decide) (XS.aloadN X0.here hx rfl (hb hby d34_26) rfl rfl (XS.iloadN X0.here hx rfl (hb hby d34_27) rfl (XS.iload X0.here hx rfl (hb hby d34_28) rfl (XS.i2b X0.here hx rfl (hb hby d34_30) rfl k))))))))) ?_
  show Go p e below s _ _ _ s₁ (mkF m 31 #[.val (.ref b505), .val (.int (0 : Int32)), .val (.ref b516), .val (.int (0 : Int32)), .val (.int (1 : Int32)), .val (.int (0 : Int32)), .val (.int v512)] [(.int (v512.toInt8.toInt32)), (.int (0 : Int32)), (.ref b516)])
  obtain ⟨cl519, Ar519, qq519, Sz519, Ng519, Hs519, Ft519⟩ := id V_b516
  have in519 : ¬ ((0 : Int32) < 0 ∨ cl519.slots.size ≤ ((0 : Int32)).toNatClampNeg) := (inb_of Sz519 ⟨by decide, by decide⟩)
  obtain ⟨T519, h519, X519, e519, W519, st519⟩ := stB X0 hx hZ e0 Ar519 (j := (0 : Int32)) in519 (g := (mkF m 31 #[.val (.ref b505), .val (.int (0 : Int32)), .val (.ref b516), .val (.int (0 : Int32)), .val (.int (1 : Int32)), .val (.int (0 : Int32)), .val (.int v512)] [(.int (v512.toInt8.toInt32)), (.int (0 : Int32)), (.ref b516)])) rfl rfl (hb hby d34_31)
  have f521 : Arv Z h519 b516 k516 .byte (1 : Int32) [(.int (nar .byte (v512.toInt8.toInt32)))] (.int (0 : Int32)) := Arv.set Ar519 qq519 Sz519 Ng519 Hs519 Ft519 (fits_nar_byte _) W519 0 rfl (Nat.le_of_ble_eq_true rfl)
  have N522 := Fr.snoc X519 N0 g_b516
  refine Go.step (fun _ k => st519 _ (XS.iinc X519.here hx rfl (hb hby d34_32) rfl (l' := #[.val (.ref b505), .val (.int ((0 : Int32) + (1 : Int32))), .val (.ref b516), .val (.int (0 : Int32)), .val (.int (1 : Int32)), .val (.int (0 : Int32)), .val (.int v512)]) rfl (XS.iinc X519.here hx rfl (hb hby d34_35) rfl (l' := #[.val (.ref b505), .val (.int (1 : Int32)), .val (.ref b516), .val (.int ((0 : Int32) + (1 : Int32))), .val (.int (1 : Int32)), .val (.int (0 : Int32)), .val (.int v512)]) rfl (XS.iinc X519.here hx rfl (hb hby d34_38) rfl (l' := #[.val (.ref b505), .val (.int (1 : Int32)), .val (.ref b516), .val (.int (1 : Int32)), .val (.int (1 : Int32)), .val (.int ((0 : Int32) + (1 : Int32))), .val (.int v512)]) rfl (XS.goto X519.here hx rfl (pc0 := 41) (pc' := 3) rfl (hb hby d34_41) (by decide) (by decide) (XS.iload X519.here hx rfl (hb hby d34_3) rfl (XS.iload X519.here hx rfl (hb hby d34_5) rfl (XS.icmpYes X519.here hx rfl (pc0 := 7) (pc' := 44) rfl (hb hby d34_7) rfl (flt (by decide)).2.1 (by decide) (by decide) (XS.iload X519.here hx rfl (hb hby d34_44) rfl k))))))))) ?_
  show Go p e below s _ _ _ T519 (mkF m 46 #[.val (.ref b505), .val (.int (1 : Int32)), .val (.ref b516), .val (.int (1 : Int32)), .val (.int (1 : Int32)), .val (.int (1 : Int32)), .val (.int v512)] [(.int (1 : Int32))])
  have f523 := ((Keep.refl h0 [b516]).wr W519 (Or.inl (List.mem_of_getElem? (i := 0) rfl)))
  have f524 := (Nat.le_trans (Nat.le_refl _) (Keep.of_wr W519).1)
  exact Go.retI X519 hx hlk Bd.returns (hb hby d34_46) e519 ⟨rfl, N522, f523, f521⟩ (by decide) (by decide)

theorem ef_StringUTF16_compress_0 (m : MethodId) (x0 : Addr) (x1 : Int32) (x2 : Int32) : entryFrame m #[(.ref x0), (.int x1), (.int x2)] 6 = mkF m 0 #[.val (.ref x0), .val (.int x1), .val (.int x2), .unset, .unset, .unset] [] := by first | (simp [entryFrame, mkF, argsToLocals, Value.category]; done) | rfl
def Q_StringUTF16_compress_0 (Z : State) (b505 : Addr) (k505 : ClassId) (v512 : Int32) (h0 : Heap) (n0 : Nat) (v : Option Value) (h : Heap) (L : List Loc) : Prop := ∃ (b516 : Addr) (k516 : ClassId), v = some (.ref b516) ∧ Fr n0 L ∧ Keep h0 h [] ∧ h0.size ≤ b516 ∧ Arv Z h b516 k516 .byte (1 : Int32) [(.int (nar .byte (v512.toInt8.toInt32)))] (.int (0 : Int32))
set_option maxRecDepth 65536 in
set_option maxHeartbeats 40000000 in
theorem rm_StringUTF16_compress_0 (l : Launch) (Z : State) (a0 : Array Value) (hw : ∀ d ∈ tables_1, d.before a0 Z = true) (ws : List Jvm.Cond) (b505 : Addr) (k505 : ClassId) (v512 : Int32) (h0 : Heap) (n0 : Nat) (Z0 : n0 ≤ h0.size) (V_b505 : Arv Z h0 b505 k505 .char (1 : Int32) [(.int v512)] (.int (0 : Int32))) (hc2 : ¬ (255 : Int32) < v512) :
    MetFree l xm3 (head1 (Jvm.Cond.code xm3 jdk_52_method_16_code 6 (some (.array .byte)) :: ws) xr23) (fun a U => a = #[(.ref b505), (.int (0 : Int32)), (.int (1 : Int32))] ∧ Z.Warmed39 U.vm ∧ U.heap = h0) (fun _ _ _ _ _ => True) (fun _ U o U' => ∃ v L, o = .returned v ∧ Q_StringUTF16_compress_0 Z b505 k505 v512 h0 n0 v U'.heap L ∧ FrameEnd U o U' L xr23.cells xr23.slots) := by
  refine MetFree.of_bodySF (plainFor_of_name pn_9) hisR ?_
  intro p e s m args below meth c s₁ Bd hml0 hP hK
  obtain ⟨rfl, hZ, hh⟩ := hP
  have hx := Bd.exec
  have hby := Bd.bytes
  have hlk : meth.locks = false := BodyLoose.notSynchronized Bd
  have hml : c.maxLocals = 6 := hml0
  have hown : s.vm.findClass xs19 = some m.cls := findClass_of_methodNamed Bd.named
  have hnm := (name_of_methodNamed Bd.named Bd.method).1
  have X0 : Stand p l e xr23 s m #[(.ref b505), (.int (0 : Int32)), (.int (1 : Int32))] below meth c s₁ [] 0 0 := Stand.of_body Bd
  have e0 : s₁.heap = h0 := by rw [← hh, Bd.state]; rfl
  have N0 := Fr.nil n0
  show Go p e below s (Q_StringUTF16_compress_0 Z b505 k505 v512 h0 n0) xr23.cells xr23.slots s₁ (entryFrame m #[(.ref b505), (.int (0 : Int32)), (.int (1 : Int32))] 6)
  refine Go.cast (ef_StringUTF16_compress_0 m b505 (0 : Int32) (1 : Int32)) ?_
  show Go p e below s _ _ _ s₁ (mkF m 0 #[.val (.ref b505), .val (.int (0 : Int32)), .val (.int (1 : Int32)), .unset, .unset, .unset] [])
  refine Go.step (fun _ k => XS.iloadN X0.here hx rfl (hb hby d33_0) rfl k) ?_
  show Go p e below s _ _ _ s₁ (mkF m 1 #[.val (.ref b505), .val (.int (0 : Int32)), .val (.int (1 : Int32)), .unset, .unset, .unset] [(.int (1 : Int32))])
  obtain ⟨T516, h516, k516, X516, e516, E516, A516, st516⟩ := newP (aty := .byte) X0 hx hZ (tw19 hw) e0 (g := (mkF m 1 #[.val (.ref b505), .val (.int (0 : Int32)), .val (.int (1 : Int32)), .unset, .unset, .unset] [(.int (1 : Int32))])) rfl (hb hby d33_1) rfl (by decide) (cap := 1) (by decide) (by decide) (by decide) (by decide)
  obtain ⟨b516, g516⟩ : ∃ z, z = h0.size := ⟨_, rfl⟩
  rw [← g516] at A516 st516
  have f517 : Arv Z h516 b516 k516 .byte (1 : Int32) [(.int (0 : Int32))] (.int (0 : Int32)) := (Arv.new A516 (by decide)).pad (pad_rep [] (.int (0 : Int32)) 1)
  refine Go.step (fun _ k => st516 _ (XS.astoreN X516.here hx rfl (hb hby d33_3) rfl rfl (l' := #[.val (.ref b505), .val (.int (0 : Int32)), .val (.int (1 : Int32)), .val (.ref b516), .unset, .unset]) rfl (XS.aloadN X516.here hx rfl (hb hby d33_4) rfl rfl (XS.iloadN X516.here hx rfl (hb hby d33_5) rfl (XS.aloadN X516.here hx rfl (hb hby d33_6) rfl rfl (XS.iconst X516.here hx rfl (hb hby d33_7) (XS.iloadN X516.here hx rfl (hb hby d33_8) rfl k))))))) ?_
  show Go p e below s _ _ _ T516 (mkF m 9 #[.val (.ref b505), .val (.int (0 : Int32)), .val (.int (1 : Int32)), .val (.ref b516), .unset, .unset] [(.int (1 : Int32)), (.int (0 : Int32)), (.ref b516), (.int (0 : Int32)), (.ref b505)])
  have g520 := Nat.le_trans Z0 (Nat.le_of_eq g516.symm)
  have f525 := (Nat.le_trans Z0 E516.1)
  have f526 := (V_b505.ext E516)
  obtain ⟨_, _, ⟨T527, L527, k527, n527⟩, -, X527, ⟨Lc527, hQ527, l527, y527, z527⟩, st527⟩ := Jvm.LawKit.callS X516 hx (y := xm1) hown (mvT hZ (tw189 hw)) (mvT hZ (tw190 hw)) (mvT hZ (tw187 hw)) (mvT hZ (tw191 hw)) (by decide) (backOf (W := 0) (rm_StringUTF16_compress_1 l Z a0 hw [] b505 b516 k505 v512 k516 h516 n0 f525 f526 hc2 f517 g520) hZ (tw191 hw) (tw187 hw) (by decide) (by decide)) (g := (mkF m 9 #[.val (.ref b505), .val (.int (0 : Int32)), .val (.int (1 : Int32)), .val (.ref b516), .unset, .unset] [(.int (1 : Int32)), (.int (0 : Int32)), (.ref b516), (.int (0 : Int32)), (.ref b505)])) rfl (by rw [hml]; rfl) (argsL := [(.ref b505), (.int (0 : Int32)), (.ref b516), (.int (0 : Int32)), (.int (1 : Int32))]) (rest := []) (lenOf pd_25 rfl) rfl (by show 2 * 0 + _ ≤ _; exact Nat.le_of_eq rfl) (hb hby d33_9) (fun _ _ => ⟨rfl, e516, (by decide : 1 + 0 ≤ _), (by decide : 1 + 0 ≤ _)⟩)
  dsimp only [Pt.U, Pt.locs, Pt.cells, Pt.slots] at X527 l527 y527 z527 st527 hQ527
  subst l527 y527 z527
  obtain ⟨rfl, N527q, K527, P527_0⟩ := hQ527
  have N528 := Fr.app N0 N527q
  refine Go.step (fun _ k => st527 _ (XS.istore X527.here hx rfl (hb hby d33_12) rfl (l' := #[.val (.ref b505), .val (.int (0 : Int32)), .val (.int (1 : Int32)), .val (.ref b516), .val (.int (1 : Int32)), .unset]) rfl (XS.iload X527.here hx rfl (hb hby d33_14) rfl (XS.iloadN X527.here hx rfl (hb hby d33_16) rfl (XS.icmpYes X527.here hx rfl (pc0 := 17) (pc' := 57) rfl (hb hby d33_17) rfl (teq (by decide)).1 (by decide) (by decide) (XS.aloadN X527.here hx rfl (hb hby d33_57) rfl rfl k)))))) ?_
  show Go p e below s _ _ _ T527 (mkF m 58 #[.val (.ref b505), .val (.int (0 : Int32)), .val (.int (1 : Int32)), .val (.ref b516), .val (.int (1 : Int32)), .unset] [(.ref b516)])
  have z529 := Nat.le_trans (Nat.le_refl _) (Nat.le_of_eq g516.symm)
  have f530 := (((Keep.refl h0 []).ext E516).trans K527 (allS (Or.inr z529) all0))
  have f531 := (Nat.le_trans (Nat.le_trans (Nat.le_refl _) E516.1) K527.1)
  exact Go.retA X527 hx hlk Bd.returns rfl rfl (hb hby d33_58) rfl ⟨b516, k516, rfl, N528, f530, z529, P527_0⟩ (by decide) (by decide)

theorem ef_StringUTF16_coderFromArrayLen_0 (m : MethodId) (x0 : Addr) (x1 : Int32) : entryFrame m #[(.ref x0), (.int x1)] 2 = mkF m 0 #[.val (.ref x0), .val (.int x1)] [] := by first | (simp [entryFrame, mkF, argsToLocals, Value.category]; done) | rfl
def Q_StringUTF16_coderFromArrayLen_0 (Z : State) (b516_532 : Addr) (k516_532 : ClassId) (v534 : Int32) (h0 : Heap) (n0 : Nat) (v : Option Value) (h : Heap) (L : List Loc) : Prop := v = some (.int (0 : Int32)) ∧ Fr n0 L ∧ h = h0
set_option maxRecDepth 65536 in
set_option maxHeartbeats 40000000 in
theorem rm_StringUTF16_coderFromArrayLen_0 (l : Launch) (Z : State) (a0 : Array Value) (hw : ∀ d ∈ tables_1, d.before a0 Z = true) (ws : List Jvm.Cond) (b516_532 : Addr) (k516_532 : ClassId) (v534 : Int32) (h0 : Heap) (n0 : Nat) (Z0 : n0 ≤ h0.size) (V_b516_532 : Arv Z h0 b516_532 k516_532 .byte (1 : Int32) [(.int v534)] (.int (0 : Int32))) :
    MetFree l xm27 (head1 (Jvm.Cond.code xm27 jdk_52_method_15_code 2 (some .byte) :: ws) xr31) (fun a U => a = #[(.ref b516_532), (.int (1 : Int32))] ∧ Z.Warmed39 U.vm ∧ U.heap = h0) (fun _ _ _ _ _ => True) (fun _ U o U' => ∃ v L, o = .returned v ∧ Q_StringUTF16_coderFromArrayLen_0 Z b516_532 k516_532 v534 h0 n0 v U'.heap L ∧ FrameEnd U o U' L xr31.cells xr31.slots) := by
  refine MetFree.of_bodySF (plainFor_of_name pn_9) hisR ?_
  intro p e s m args below meth c s₁ Bd hml0 hP hK
  obtain ⟨rfl, hZ, hh⟩ := hP
  have hx := Bd.exec
  have hby := Bd.bytes
  have hlk : meth.locks = false := BodyLoose.notSynchronized Bd
  have hml : c.maxLocals = 2 := hml0
  have hown : s.vm.findClass xs19 = some m.cls := findClass_of_methodNamed Bd.named
  have hnm := (name_of_methodNamed Bd.named Bd.method).1
  have X0 : Stand p l e xr31 s m #[(.ref b516_532), (.int (1 : Int32))] below meth c s₁ [] 0 0 := Stand.of_body Bd
  have e0 : s₁.heap = h0 := by rw [← hh, Bd.state]; rfl
  have N0 := Fr.nil n0
  show Go p e below s (Q_StringUTF16_coderFromArrayLen_0 Z b516_532 k516_532 v534 h0 n0) xr31.cells xr31.slots s₁ (entryFrame m #[(.ref b516_532), (.int (1 : Int32))] 2)
  refine Go.cast (ef_StringUTF16_coderFromArrayLen_0 m b516_532 (1 : Int32)) ?_
  show Go p e below s _ _ _ s₁ (mkF m 0 #[.val (.ref b516_532), .val (.int (1 : Int32))] [])
  refine Go.step (fun _ k => XS.iloadN X0.here hx rfl (hb hby d35_0) rfl (XS.aloadN X0.here hx rfl (hb hby d35_1) rfl rfl k)) ?_
  show Go p e below s _ _ _ s₁ (mkF m 2 #[.val (.ref b516_532), .val (.int (1 : Int32))] [(.ref b516_532), (.int (1 : Int32))])
  obtain ⟨cl535, Ar535, -, Sz535, Ng535, -, -⟩ := id V_b516_532
  have aln535 := X0.arraylength hx (by rw [e0]; exact Ar535.1) (State.isArrayOf_alike hZ.alike Ar535.2.1) (g := (mkF m 2 #[.val (.ref b516_532), .val (.int (1 : Int32))] [(.ref b516_532), (.int (1 : Int32))])) rfl rfl (hb hby d35_2)
  rw [len_of Sz535 Ng535] at aln535
  refine Go.step (fun _ k => aln535 _ (XS.isub X0.here hx rfl (hb hby d35_3) rfl (XS.bipush X0.here hx rfl (hb hby d35_4) (XS.iushr X0.here hx rfl (hb hby d35_6) rfl (XS.i2b X0.here hx rfl (hb hby d35_7) rfl k))))) ?_
  show Go p e below s _ _ _ s₁ (mkF m 8 #[.val (.ref b516_532), .val (.int (1 : Int32))] [(.int (0 : Int32))])
  exact Go.retN X0 hx hlk (t := .byte) Bd.returns (by simp) (hb hby d35_8) e0 ⟨rfl, N0, rfl⟩ (by decide) (by decide)

theorem ef_String_new_5 (m : MethodId) (x0 : Addr) (x1 : Addr) (x2 : Int32) (x3 : Int32) : entryFrame m #[(.ref x0), (.ref x1), (.int x2), (.int x3), .null] 6 = mkF m 0 #[.val (.ref x0), .val (.ref x1), .val (.int x2), .val (.int x3), .val .null, .unset] [] := by first | (simp [entryFrame, mkF, argsToLocals, Value.category]; done) | rfl
def Q_String_new_5 (Z : State) (b502 : Addr) (b505 : Addr) (cs : Int32) (k505 : ClassId) (v512 : Int32) (h0 : Heap) (n0 : Nat) (v : Option Value) (h : Heap) (L : List Loc) : Prop := ∃ (b516_532 : Addr) (k516_532 : ClassId), v = none ∧ Fr n0 L ∧ Keep h0 h [b502] ∧ Fld Z h b502 xs25 "coder" "B" (.int (0 : Int32)) ∧ Fld Z h b502 xs25 "value" "[B" (.ref b516_532) ∧ h0.size ≤ b516_532 ∧ Arv Z h b516_532 k516_532 .byte (1 : Int32) [(.int (nar .byte (v512.toInt8.toInt32)))] (.int (0 : Int32))
set_option maxRecDepth 65536 in
set_option maxHeartbeats 40000000 in
theorem rm_String_new_5 (l : Launch) (Z : State) (a0 : Array Value) (hw : ∀ d ∈ tables_1, d.before a0 Z = true) (ws : List Jvm.Cond) (b502 : Addr) (b505 : Addr) (cs : Int32) (k505 : ClassId) (v512 : Int32) (h0 : Heap) (n0 : Nat) (Z0 : n0 ≤ h0.size) (Z_S_COMPACT_STRINGS : Sta Z Z.heap xs25 xs28 "Z" (.int cs)) (O0 : Old Z n0 h0) (hcs : ¬ cs = (0 : Int32)) (V_b505 : Arv Z h0 b505 k505 .char (1 : Int32) [(.int v512)] (.int (0 : Int32))) (hc2 : ¬ (255 : Int32) < v512) (E_b502 : Exa Z h0 b502 xs25) (F_coder_b502 : Fld Z h0 b502 xs25 "coder" "B" (.int (0 : Int32))) (g_b502 : n0 ≤ b502) (F_value_b502 : Fld Z h0 b502 xs25 "value" "[B" .null) :
    MetFree l xm23 (head1 (Jvm.Cond.code xm23 jdk_42_method_149_code 6 none :: ws) xr24) (fun a U => a = #[(.ref b502), (.ref b505), (.int (0 : Int32)), (.int (1 : Int32)), .null] ∧ Z.Warmed39 U.vm ∧ U.heap = h0 ∧ CHv Z consts_1 U.vm h0) (fun _ _ _ _ _ => True) (fun _ U o U' => ∃ v L, o = .returned v ∧ Q_String_new_5 Z b502 b505 cs k505 v512 h0 n0 v U'.heap L ∧ CHr Z consts_1 U.vm U.heap U'.vm U'.heap ∧ ReturnedEndW U o U' L xr24.cells xr24.slots) := by
  refine MetFree.of_bodySF (plainFor_of_name pn_1) hisR ?_
  intro p e s m args below meth c s₁ Bd hml0 hP hK
  obtain ⟨rfl, hZ, hh, hCH⟩ := hP
  have hx := Bd.exec
  have hby := Bd.bytes
  have hlk : meth.locks = false := BodyLoose.notSynchronized Bd
  have hml : c.maxLocals = 6 := hml0
  have hown : s.vm.findClass xs25 = some m.cls := findClass_of_methodNamed Bd.named
  have hnm := (name_of_methodNamed Bd.named Bd.method).1
  have X0 : Stand p l e xr24 (s.setVm s.vm) m #[(.ref b502), (.ref b505), (.int (0 : Int32)), (.int (1 : Int32)), .null] below meth c s₁ [] 0 0 := Stand.of_body Bd
  have e0 : s₁.heap = h0 := by rw [← hh, Bd.state]; rfl
  have N0 := Fr.nil n0
  have hS0 : s.Since s.vm h0.size := (State.WarmedH.refl s).since _
  have CH0 : CHr Z consts_1 s.vm s.heap s.vm h0 := by rw [hh]; exact CHr.refl hCH
  have hZ_0 := hZ
  show GoH p e below s (((Q_String_new_5 Z b502 b505 cs k505 v512 h0 n0, fun vm h => CHr Z consts_1 s.vm s.heap vm h) : (Option Value → Heap → List Loc → Prop) × (Vm → Heap → Prop))) xr24.cells xr24.slots s₁ (entryFrame m #[(.ref b502), (.ref b505), (.int (0 : Int32)), (.int (1 : Int32)), .null] 6)
  refine GoH.cast (ef_String_new_5 m b502 b505 (0 : Int32) (1 : Int32)) ?_
  show GoH p e below s _ _ _ s₁ (mkF m 0 #[.val (.ref b502), .val (.ref b505), .val (.int (0 : Int32)), .val (.int (1 : Int32)), .val .null, .unset] [])
  refine GoH.step (fun _ k => XS.aloadN X0.here hx rfl (hb hby d4_0) rfl rfl k) ?_
  show GoH p e below s _ _ _ s₁ (mkF m 1 #[.val (.ref b502), .val (.ref b505), .val (.int (0 : Int32)), .val (.int (1 : Int32)), .val .null, .unset] [(.ref b502)])
  obtain ⟨T514, X514, e514, st514⟩ := initO X0 hx hZ hown (tw15 hw) (tw16 hw) (tw17 hw) e0 (g := (mkF m 1 #[.val (.ref b502), .val (.ref b505), .val (.int (0 : Int32)), .val (.int (1 : Int32)), .val .null, .unset] [(.ref b502)])) rfl (by rw [hml]; rfl) rfl (hb hby d4_1) (by decide) (W := 0) (by show 2 * 0 + _ ≤ _; exact Nat.le_of_eq rfl) (by decide)
  refine GoH.step (fun _ k => st514 _ (XS.iloadN X514.here hx rfl (hb hby d4_4) rfl (XS.ifYes X514.here hx rfl (pc0 := 5) (pc' := 27) rfl (hb hby d4_5) rfl ((if0 _ _).trans (feq (by decide)).2) (by decide) (by decide) k))) ?_
  show GoH p e below s _ _ _ T514 (mkF m 27 #[.val (.ref b502), .val (.ref b505), .val (.int (0 : Int32)), .val (.int (1 : Int32)), .val .null, .unset] [])
  obtain ⟨T515, X515, e515, st515⟩ := getS2 X514 hx hZ hown (host := "") (Or.inl (tw85 hw)) Via.refl e514 (Z_S_COMPACT_STRINGS.ext O0.2) (g := (mkF m 27 #[.val (.ref b502), .val (.ref b505), .val (.int (0 : Int32)), .val (.int (1 : Int32)), .val .null, .unset] [])) rfl (hb hby d4_27)
  refine GoH.step (fun _ k => st515 _ (XS.ifNo X515.here hx rfl (hb hby d4_30) rfl ((if0 _ _).trans (feq hcs).1) (XS.aloadN X515.here hx rfl (hb hby d4_33) rfl rfl (XS.iloadN X515.here hx rfl (hb hby d4_34) rfl (XS.iloadN X515.here hx rfl (hb hby d4_35) rfl k))))) ?_
  show GoH p e below s _ _ _ T515 (mkF m 36 #[.val (.ref b502), .val (.ref b505), .val (.int (0 : Int32)), .val (.int (1 : Int32)), .val .null, .unset] [(.int (1 : Int32)), (.int (0 : Int32)), (.ref b505)])
  obtain ⟨_, _, ⟨T532, L532, k532, n532⟩, -, X532, ⟨Lc532, hQ532, l532, y532, z532⟩, st532⟩ := Jvm.LawKit.callS X515 hx (y := xm3) hown (mvT hZ (tw185 hw)) (mvT hZ (tw186 hw)) (mvT hZ (tw187 hw)) (mvT hZ (tw188 hw)) (by decide) (backOf (W := 0) (rm_StringUTF16_compress_0 l Z a0 hw [] b505 k505 v512 h0 n0 Z0 V_b505 hc2) hZ (tw188 hw) (tw187 hw) (by decide) (by decide)) (g := (mkF m 36 #[.val (.ref b502), .val (.ref b505), .val (.int (0 : Int32)), .val (.int (1 : Int32)), .val .null, .unset] [(.int (1 : Int32)), (.int (0 : Int32)), (.ref b505)])) rfl (by rw [hml]; rfl) (argsL := [(.ref b505), (.int (0 : Int32)), (.int (1 : Int32))]) (rest := []) (lenOf pd_26 rfl) rfl (by show 2 * 0 + _ ≤ _; exact Nat.le_of_eq rfl) (hb hby d4_36) (fun _ _ => ⟨rfl, e515, (by decide : 0 + 1 ≤ _), (by decide : 0 + 1 ≤ _)⟩)
  dsimp only [Pt.U, Pt.locs, Pt.cells, Pt.slots] at X532 l532 y532 z532 st532 hQ532
  subst l532 y532 z532
  obtain ⟨b516_532, k516_532, rfl, N532q, K532, P532_0, P532_1⟩ := hQ532
  have N533 := Fr.app N0 N532q
  refine GoH.step (fun _ k => st532 _ (XS.astore X532.here hx rfl (hb hby d4_39) rfl rfl (l' := #[.val (.ref b502), .val (.ref b505), .val (.int (0 : Int32)), .val (.int (1 : Int32)), .val .null, .val (.ref b516_532)]) rfl (XS.aloadN X532.here hx rfl (hb hby d4_41) rfl rfl (XS.aload X532.here hx rfl (hb hby d4_42) rfl rfl (XS.iloadN X532.here hx rfl (hb hby d4_44) rfl k))))) ?_
  show GoH p e below s _ _ _ T532 (mkF m 45 #[.val (.ref b502), .val (.ref b505), .val (.int (0 : Int32)), .val (.int (1 : Int32)), .val .null, .val (.ref b516_532)] [(.int (1 : Int32)), (.ref b516_532), (.ref b502)])
  have f536 := (Nat.le_trans Z0 K532.1)
  obtain ⟨_, _, ⟨T537, L537, k537, n537⟩, -, X537, ⟨Lc537, hQ537, l537, y537, z537⟩, st537⟩ := Jvm.LawKit.callS X532 hx (y := xm27) hown (mvT hZ (tw192 hw)) (mvT hZ (tw193 hw)) (mvT hZ (tw187 hw)) (mvT hZ (tw194 hw)) (by decide) (backOf (W := 1) (rm_StringUTF16_coderFromArrayLen_0 l Z a0 hw [] b516_532 k516_532 (nar .byte (v512.toInt8.toInt32)) T532.heap n0 f536 P532_1) hZ (tw194 hw) (tw187 hw) (by decide) (by decide)) (g := (mkF m 45 #[.val (.ref b502), .val (.ref b505), .val (.int (0 : Int32)), .val (.int (1 : Int32)), .val .null, .val (.ref b516_532)] [(.int (1 : Int32)), (.ref b516_532), (.ref b502)])) rfl (by rw [hml]; rfl) (argsL := [(.ref b516_532), (.int (1 : Int32))]) (rest := [(.ref b502)]) (lenOf pd_27 rfl) rfl (by show 2 * 0 + _ ≤ _; exact Nat.le_of_eq rfl) (hb hby d4_45) (fun _ _ => ⟨rfl, rfl, (by decide : 1 + 0 ≤ _), (by decide : 1 + 0 ≤ _)⟩)
  dsimp only [Pt.U, Pt.locs, Pt.cells, Pt.slots] at X537 l537 y537 z537 st537 hQ537
  subst l537 y537 z537
  obtain ⟨rfl, N537q, eq537⟩ := hQ537
  have N538 := Fr.app N533 N537q
  refine GoH.step (fun _ k => st537 _ k) ?_
  show GoH p e below s _ _ _ T537 (mkF m 48 #[.val (.ref b502), .val (.ref b505), .val (.int (0 : Int32)), .val (.int (1 : Int32)), .val .null, .val (.ref b516_532)] [(.int (0 : Int32)), (.ref b502)])
  have f539 := (F_coder_b502.keep K532 nin0)
  have f540 := (E_b502.keep K532)
  obtain ⟨T541, h541, X541, e541, W541, st541⟩ := putFN X537 hx hZ hown (tw25 hw) Via.refl eq537 f539 f540 (Or.inr ⟨(tw21 hw), rfl, hnm⟩) (tw5 hw) (ty := .byte) (v' := (.int (0 : Int32))) (by decide) rfl rfl (g := (mkF m 48 #[.val (.ref b502), .val (.ref b505), .val (.int (0 : Int32)), .val (.int (1 : Int32)), .val .null, .val (.ref b516_532)] [(.int (0 : Int32)), (.ref b502)])) rfl rfl (hb hby d4_48)
  have f543 := f539.same W541
  have N544 := Fr.snoc X541 N538 g_b502
  refine GoH.step (fun _ k => st541 _ (XS.aloadN X541.here hx rfl (hb hby d4_51) rfl rfl (XS.aload X541.here hx rfl (hb hby d4_52) rfl rfl k))) ?_
  show GoH p e below s _ _ _ T541 (mkF m 54 #[.val (.ref b502), .val (.ref b505), .val (.int (0 : Int32)), .val (.int (1 : Int32)), .val .null, .val (.ref b516_532)] [(.ref b516_532), (.ref b502)])
  have f545 := ((F_value_b502.keep K532 nin0).other W541 (Or.inr (slot_ne (Or.inr (tw20 hw)) (Or.inr (tw21 hw)) (by decide) (t := (.array .byte)) (t' := .byte) (by decide) (by decide))))
  have f546 := (f540.wr W541)
  obtain ⟨T547, h547, X547, e547, W547, st547⟩ := putF X541 hx hZ hown (host := "") (Or.inl (tw24 hw)) Via.refl e541 f545 f546 (Or.inr ⟨(tw20 hw), rfl, hnm⟩) (tw5 hw) (ty := (.array .byte)) (by decide) rfl rfl (g := (mkF m 54 #[.val (.ref b502), .val (.ref b505), .val (.int (0 : Int32)), .val (.int (1 : Int32)), .val .null, .val (.ref b516_532)] [(.ref b516_532), (.ref b502)])) rfl rfl (hb hby d4_54)
  have f548 := f545.same W547
  have N549 := Fr.snoc X547 N544 g_b502
  refine GoH.step (fun _ k => st547 _ k) ?_
  show GoH p e below s _ _ _ T547 (mkF m 57 #[.val (.ref b502), .val (.ref b505), .val (.int (0 : Int32)), .val (.int (1 : Int32)), .val .null, .val (.ref b516_532)] [])
  have f550 := ((((Keep.refl h0 [b502]).trans K532 all0).wr W541 (Or.inl (List.mem_of_getElem? (i := 0) rfl))).wr W547 (Or.inl (List.mem_of_getElem? (i := 0) rfl)))
  have f551 := (f543.other W547 (Or.inr (slot_ne (Or.inr (tw21 hw)) (Or.inr (tw20 hw)) (by decide) (t := .byte) (t' := (.array .byte)) (by decide) (by decide))))
  have z552 := Nat.le_trans (Nat.le_refl _) P532_0
  have ne553 : b502 ≠ b516_532 := Nat.ne_of_lt (Nat.lt_of_lt_of_le E_b502.lt P532_0)
  have f554 := ((P532_1.other W541 (Ne.symm ne553)).other W547 (Ne.symm ne553))
  have f555 := (Nat.le_trans (Nat.le_trans (Nat.le_trans (Nat.le_refl _) K532.1) (Keep.of_wr W541).1) (Keep.of_wr W547).1)
  have f556 := (F_value_b502.keep K532 nin0)
  have sf557 := own_safeN (EL := consts_1) hZ_0.alike f556 f540
  have f558 := (own_chK CH0 K532 sf0)
  have f559 := (Safe.wr W541 sf557 f558.1 sf557)
  have f560 := (own_chW (own_chW (own_chK CH0 K532 sf0) W541 sf557) W547 f559)
  exact GoH.retV X547 hS0 hx hlk Bd.returns (hb hby d4_57) e547 f555 ⟨b516_532, k516_532, rfl, N549, f550, f551, f548, z552, f554⟩ (f560.trans (CHv.at X547 hZ_0 (own_EW hw) f560.1)) (by decide) (by decide)

theorem ef_String_new_4 (m : MethodId) (x0 : Addr) (x1 : Addr) : entryFrame m #[(.ref x0), (.ref x1)] 2 = mkF m 0 #[.val (.ref x0), .val (.ref x1)] [] := by first | (simp [entryFrame, mkF, argsToLocals, Value.category]; done) | rfl
def Q_String_new_4 (Z : State) (b502 : Addr) (b505 : Addr) (k505 : ClassId) (v512 : Int32) (cs : Int32) (h0 : Heap) (n0 : Nat) (v : Option Value) (h : Heap) (L : List Loc) : Prop := ∃ (b516_532_561 : Addr) (k516_532_561 : ClassId), v = none ∧ Fr n0 L ∧ Keep h0 h [b502] ∧ Fld Z h b502 xs25 "coder" "B" (.int (0 : Int32)) ∧ Fld Z h b502 xs25 "value" "[B" (.ref b516_532_561) ∧ h0.size ≤ b516_532_561 ∧ Arv Z h b516_532_561 k516_532_561 .byte (1 : Int32) [(.int (nar .byte (v512.toInt8.toInt32)))] (.int (0 : Int32))
set_option maxRecDepth 65536 in
set_option maxHeartbeats 40000000 in
theorem rm_String_new_4 (l : Launch) (Z : State) (a0 : Array Value) (hw : ∀ d ∈ tables_1, d.before a0 Z = true) (ws : List Jvm.Cond) (b502 : Addr) (b505 : Addr) (k505 : ClassId) (v512 : Int32) (cs : Int32) (h0 : Heap) (n0 : Nat) (Z0 : n0 ≤ h0.size) (V_b505 : Arv Z h0 b505 k505 .char (1 : Int32) [(.int v512)] (.int (0 : Int32))) (Z_S_COMPACT_STRINGS : Sta Z Z.heap xs25 xs28 "Z" (.int cs)) (O0 : Old Z n0 h0) (hcs : ¬ cs = (0 : Int32)) (hc2 : ¬ (255 : Int32) < v512) (E_b502 : Exa Z h0 b502 xs25) (F_coder_b502 : Fld Z h0 b502 xs25 "coder" "B" (.int (0 : Int32))) (g_b502 : n0 ≤ b502) (F_value_b502 : Fld Z h0 b502 xs25 "value" "[B" .null) :
    MetFree l xm9 (head1 (Jvm.Cond.code xm9 jdk_42_method_3_code 2 none :: ws) xr25) (fun a U => a = #[(.ref b502), (.ref b505)] ∧ Z.Warmed39 U.vm ∧ U.heap = h0 ∧ CHv Z consts_1 U.vm h0) (fun _ _ _ _ _ => True) (fun _ U o U' => ∃ v L, o = .returned v ∧ Q_String_new_4 Z b502 b505 k505 v512 cs h0 n0 v U'.heap L ∧ CHr Z consts_1 U.vm U.heap U'.vm U'.heap ∧ ReturnedEndW U o U' L xr25.cells xr25.slots) := by
  refine MetFree.of_bodySF (plainFor_of_name pn_1) hisR ?_
  intro p e s m args below meth c s₁ Bd hml0 hP hK
  obtain ⟨rfl, hZ, hh, hCH⟩ := hP
  have hx := Bd.exec
  have hby := Bd.bytes
  have hlk : meth.locks = false := BodyLoose.notSynchronized Bd
  have hml : c.maxLocals = 2 := hml0
  have hown : s.vm.findClass xs25 = some m.cls := findClass_of_methodNamed Bd.named
  have hnm := (name_of_methodNamed Bd.named Bd.method).1
  have X0 : Stand p l e xr25 (s.setVm s.vm) m #[(.ref b502), (.ref b505)] below meth c s₁ [] 0 0 := Stand.of_body Bd
  have e0 : s₁.heap = h0 := by rw [← hh, Bd.state]; rfl
  have N0 := Fr.nil n0
  have hS0 : s.Since s.vm h0.size := (State.WarmedH.refl s).since _
  have CH0 : CHr Z consts_1 s.vm s.heap s.vm h0 := by rw [hh]; exact CHr.refl hCH
  have hZ_0 := hZ
  show GoH p e below s (((Q_String_new_4 Z b502 b505 k505 v512 cs h0 n0, fun vm h => CHr Z consts_1 s.vm s.heap vm h) : (Option Value → Heap → List Loc → Prop) × (Vm → Heap → Prop))) xr25.cells xr25.slots s₁ (entryFrame m #[(.ref b502), (.ref b505)] 2)
  refine GoH.cast (ef_String_new_4 m b502 b505) ?_
  show GoH p e below s _ _ _ s₁ (mkF m 0 #[.val (.ref b502), .val (.ref b505)] [])
  refine GoH.step (fun _ k => XS.aloadN X0.here hx rfl (hb hby d3_0) rfl rfl (XS.aloadN X0.here hx rfl (hb hby d3_1) rfl rfl (XS.iconst X0.here hx rfl (hb hby d3_2) (XS.aloadN X0.here hx rfl (hb hby d3_3) rfl rfl k)))) ?_
  show GoH p e below s _ _ _ s₁ (mkF m 4 #[.val (.ref b502), .val (.ref b505)] [(.ref b505), (.int (0 : Int32)), (.ref b505), (.ref b502)])
  obtain ⟨cl513, Ar513, -, Sz513, Ng513, -, -⟩ := id V_b505
  have aln513 := X0.arraylength hx (by rw [e0]; exact Ar513.1) (State.isArrayOf_alike hZ.alike Ar513.2.1) (g := (mkF m 4 #[.val (.ref b502), .val (.ref b505)] [(.ref b505), (.int (0 : Int32)), (.ref b505), (.ref b502)])) rfl rfl (hb hby d3_4)
  rw [len_of Sz513 Ng513] at aln513
  refine GoH.step (fun _ k => aln513 _ (XS.aconstNull X0.here hx rfl (hb hby d3_5) k)) ?_
  show GoH p e below s _ _ _ s₁ (mkF m 6 #[.val (.ref b502), .val (.ref b505)] [.null, (.int (1 : Int32)), (.int (0 : Int32)), (.ref b505), (.ref b502)])
  obtain ⟨_, _, ⟨T561, L561, k561, n561⟩, -, X561s, hs561, hg561, ⟨Lc561, hQ561, l561, y561, z561, ch561⟩, st561⟩ := X0.specialBackS hx (y := xm23) rfl hown (mvT hZ (tw11 hw)) (mvT hZ (tw12 hw)) (mvT hZ (tw14 hw)) (by decide) (backOfSH (W := 0) (rm_String_new_5 l Z a0 hw [] b502 b505 cs k505 v512 h0 n0 Z0 Z_S_COMPACT_STRINGS O0 hcs V_b505 hc2 E_b502 F_coder_b502 g_b502 F_value_b502) hZ (tw14 hw) (tw6 hw) (by decide) (by decide) (own_EW hw) CH0.1) (g := (mkF m 6 #[.val (.ref b502), .val (.ref b505)] [.null, (.int (1 : Int32)), (.int (0 : Int32)), (.ref b505), (.ref b502)])) rfl (by rw [hml]; rfl) (Steps.refl _) (a := b502) (argsL := [(.ref b505), (.int (0 : Int32)), (.int (1 : Int32)), .null]) (rest := []) (lenOf pd_1 rfl) rfl (by show 2 * 0 + _ ≤ _; exact Nat.le_of_eq rfl) (hb hby d3_6) (fun _ _ => ⟨rfl, e0, (by decide : 0 + 1 ≤ _), (by decide : 0 + 1 ≤ _)⟩)
  dsimp only [Pt.U, Pt.locs, Pt.cells, Pt.slots] at X561s hs561 hg561 l561 y561 z561 st561 hQ561 ch561
  subst l561 y561 z561
  obtain ⟨X561, hS561, hZ561, hown561⟩ := rebS hS0 (by rw [e0]; exact (Nat.le_refl _)) X561s hs561 hg561 hZ hown
  obtain ⟨b516_532_561, k516_532_561, rfl, N561q, K561, P561_0, P561_1, P561_2, P561_3⟩ := hQ561
  have N562 := Fr.app N0 N561q
  have f563 := CH0.trans ch561
  refine GoH.step (fun _ k => st561.trans k) ?_
  show GoH p e below s _ _ _ T561 (mkF m 9 #[.val (.ref b502), .val (.ref b505)] [])
  have f564 := ((Keep.refl h0 [b502]).trans K561 (allS (Or.inl (List.mem_of_getElem? (i := 0) rfl)) all0))
  have z565 := Nat.le_trans (Nat.le_refl _) P561_2
  exact GoH.retV X561 hS561 hx hlk Bd.returns (hb hby d3_9) rfl (Nat.le_refl _) ⟨b516_532_561, k516_532_561, rfl, N562, f564, P561_0, P561_1, z565, P561_3⟩ (f563.trans (CHv.at X561 hZ561 (own_EW hw) f563.1)) (by decide) (by decide)

theorem ef_SubjectSetTypeToStringPinLaw_mk_1 (m : MethodId) (x0 : Int32) (x1 : Int32) (x2 : Int32) : entryFrame m #[(.int x0), (.int x1), (.int x2)] 3 = mkF m 0 #[.val (.int x0), .val (.int x1), .val (.int x2)] [] := by first | (simp [entryFrame, mkF, argsToLocals, Value.category]; done) | rfl
def Q_SubjectSetTypeToStringPinLaw_mk_1 (Z : State) (c2 : Int32) (c3 : Int32) (cs : Int32) (h0 : Heap) (n0 : Nat) (v : Option Value) (h : Heap) (L : List Loc) : Prop := ∃ (b502 : Addr) (b516_532_561_572 : Addr) (k516_532_561_572 : ClassId), v = some (.ref b502) ∧ Fr n0 L ∧ Keep h0 h [] ∧ h0.size ≤ b502 ∧ Exa Z h b502 xs25 ∧ Fld Z h b502 xs25 "value" "[B" (.ref b516_532_561_572) ∧ Fld Z h b502 xs25 "coder" "B" (.int (0 : Int32)) ∧ h0.size ≤ b516_532_561_572 ∧ Arv Z h b516_532_561_572 k516_532_561_572 .byte (1 : Int32) [(.int (nar .byte ((nar .char c2).toInt8.toInt32)))] (.int (0 : Int32)) ∧ b502 ≠ b516_532_561_572
set_option maxRecDepth 65536 in
set_option maxHeartbeats 40000000 in
theorem rm_SubjectSetTypeToStringPinLaw_mk_1 (l : Launch) (Z : State) (a0 : Array Value) (hw : ∀ d ∈ tables_1, d.before a0 Z = true) (ws : List Jvm.Cond) (c2 : Int32) (c3 : Int32) (cs : Int32) (h0 : Heap) (n0 : Nat) (Z0 : n0 ≤ h0.size) (Z_S_COMPACT_STRINGS : Sta Z Z.heap xs25 xs28 "Z" (.int cs)) (O0 : Old Z n0 h0) (hcs : ¬ cs = (0 : Int32)) (hc2 : ¬ (255 : Int32) < (nar .char c2)) :
    MetFree l xm34 (head1 (Jvm.Cond.code xm34 method_3_code 3 (some (.object xs25)) :: ws) xr26) (fun a U => a = #[(.int (1 : Int32)), (.int c2), (.int c3)] ∧ Z.Warmed39 U.vm ∧ U.heap = h0 ∧ CHv Z consts_1 U.vm h0) (fun _ _ _ _ _ => True) (fun _ U o U' => ∃ v L, o = .returned v ∧ Q_SubjectSetTypeToStringPinLaw_mk_1 Z c2 c3 cs h0 n0 v U'.heap L ∧ CHr Z consts_1 U.vm U.heap U'.vm U'.heap ∧ ReturnedEndW U o U' L xr26.cells xr26.slots) := by
  refine MetFree.of_bodySF (plainFor_of_name pn_2) hisR ?_
  intro p e s m args below meth c s₁ Bd hml0 hP hK
  obtain ⟨rfl, hZ, hh, hCH⟩ := hP
  have hx := Bd.exec
  have hby := Bd.bytes
  have hlk : meth.locks = false := BodyLoose.notSynchronized Bd
  have hml : c.maxLocals = 3 := hml0
  have hown : s.vm.findClass xs0 = some m.cls := findClass_of_methodNamed Bd.named
  have hnm := (name_of_methodNamed Bd.named Bd.method).1
  have X0 : Stand p l e xr26 (s.setVm s.vm) m #[(.int (1 : Int32)), (.int c2), (.int c3)] below meth c s₁ [] 0 0 := Stand.of_body Bd
  have e0 : s₁.heap = h0 := by rw [← hh, Bd.state]; rfl
  have N0 := Fr.nil n0
  have hS0 : s.Since s.vm h0.size := (State.WarmedH.refl s).since _
  have CH0 : CHr Z consts_1 s.vm s.heap s.vm h0 := by rw [hh]; exact CHr.refl hCH
  have hZ_0 := hZ
  show GoH p e below s (((Q_SubjectSetTypeToStringPinLaw_mk_1 Z c2 c3 cs h0 n0, fun vm h => CHr Z consts_1 s.vm s.heap vm h) : (Option Value → Heap → List Loc → Prop) × (Vm → Heap → Prop))) xr26.cells xr26.slots s₁ (entryFrame m #[(.int (1 : Int32)), (.int c2), (.int c3)] 3)
  refine GoH.cast (ef_SubjectSetTypeToStringPinLaw_mk_1 m (1 : Int32) c2 c3) ?_
  show GoH p e below s _ _ _ s₁ (mkF m 0 #[.val (.int (1 : Int32)), .val (.int c2), .val (.int c3)] [])
  refine GoH.step (fun _ k => XS.iloadN X0.here hx rfl (hb hby d2_0) rfl (XS.ifYes X0.here hx rfl (pc0 := 1) (pc' := 15) rfl (hb hby d2_1) rfl ((if0 _ _).trans (feq (by decide)).2) (by decide) (by decide) (XS.iloadN X0.here hx rfl (hb hby d2_15) rfl (XS.iconst X0.here hx rfl (hb hby d2_16) (XS.icmpNo X0.here hx rfl (hb hby d2_17) rfl (teq (by decide)).2 k))))) ?_
  show GoH p e below s _ _ _ s₁ (mkF m 20 #[.val (.int (1 : Int32)), .val (.int c2), .val (.int c3)] [])
  obtain ⟨T502, h502, X502, e502, E502, A502, D502, -, st502⟩ := newO X0 hx hZ hown (tw4 hw) (tw5 hw) (tw6 hw) e0 (g := (mkF m 20 #[.val (.int (1 : Int32)), .val (.int c2), .val (.int c3)] [])) rfl (hb hby d2_20) (by decide) (by decide)
  obtain ⟨b502, g502⟩ : ∃ z, z = h0.size := ⟨_, rfl⟩
  rw [← g502] at A502 D502 st502
  have f503 : Fld Z h502 b502 xs25 "value" "[B" .null := D502 (Or.inr (tw20 hw)) (ty := (.array .byte)) (by decide)
  have f504 : Fld Z h502 b502 xs25 "coder" "B" (.int (0 : Int32)) := D502 (Or.inr (tw21 hw)) (ty := .byte) (by decide)
  refine GoH.step (fun _ k => st502 _ (XS.dup X502.here hx rfl (hb hby d2_23) rfl rfl (XS.iconst X502.here hx rfl (hb hby d2_24) k))) ?_
  show GoH p e below s _ _ _ T502 (mkF m 25 #[.val (.int (1 : Int32)), .val (.int c2), .val (.int c3)] [(.int (1 : Int32)), (.ref b502), (.ref b502)])
  obtain ⟨T505, h505, k505, X505, e505, E505, A505, st505⟩ := newP (aty := .char) X502 hx hZ (tw7 hw) e502 (g := (mkF m 25 #[.val (.int (1 : Int32)), .val (.int c2), .val (.int c3)] [(.int (1 : Int32)), (.ref b502), (.ref b502)])) rfl (hb hby d2_25) rfl (by decide) (cap := 1) (by decide) (by decide) (by decide) (by decide)
  obtain ⟨b505, g505⟩ : ∃ z, z = h502.size := ⟨_, rfl⟩
  rw [← g505] at A505 st505
  have f506 : Arv Z h505 b505 k505 .char (1 : Int32) [(.int (0 : Int32))] (.int (0 : Int32)) := (Arv.new A505 (by decide)).pad (pad_rep [] (.int (0 : Int32)) 1)
  refine GoH.step (fun _ k => st505 _ (XS.dup X505.here hx rfl (hb hby d2_27) rfl rfl (XS.iconst X505.here hx rfl (hb hby d2_28) (XS.iloadN X505.here hx rfl (hb hby d2_29) rfl k)))) ?_
  show GoH p e below s _ _ _ T505 (mkF m 30 #[.val (.int (1 : Int32)), .val (.int c2), .val (.int c3)] [(.int c2), (.int (0 : Int32)), (.ref b505), (.ref b505), (.ref b502), (.ref b502)])
  obtain ⟨cl507, Ar507, qq507, Sz507, Ng507, Hs507, Ft507⟩ := id f506
  have in507 : ¬ ((0 : Int32) < 0 ∨ cl507.slots.size ≤ ((0 : Int32)).toNatClampNeg) := (inb_of Sz507 ⟨by decide, by decide⟩)
  obtain ⟨T507, h507, X507, e507, W507, st507⟩ := stC X505 hx hZ e505 Ar507 (j := (0 : Int32)) in507 (g := (mkF m 30 #[.val (.int (1 : Int32)), .val (.int c2), .val (.int c3)] [(.int c2), (.int (0 : Int32)), (.ref b505), (.ref b505), (.ref b502), (.ref b502)])) rfl rfl (hb hby d2_30)
  have f508 := (Nat.le_trans Z0 E502.1)
  have g509 := Nat.le_trans f508 (Nat.le_of_eq g505.symm)
  have f510 : Arv Z h507 b505 k505 .char (1 : Int32) [(.int (nar .char c2))] (.int (0 : Int32)) := Arv.set Ar507 qq507 Sz507 Ng507 Hs507 Ft507 (fits_nar_char _) W507 0 rfl (Nat.le_of_ble_eq_true rfl)
  have N511 := Fr.snoc X507 N0 g509
  refine GoH.step (fun _ k => st507 _ k) ?_
  show GoH p e below s _ _ _ T507 (mkF m 31 #[.val (.int (1 : Int32)), .val (.int c2), .val (.int c3)] [(.ref b505), (.ref b502), (.ref b502)])
  have g542 := Nat.le_trans Z0 (Nat.le_of_eq g502.symm)
  have f566 := (((O0.ext E502).ext E505).wr W507 g509)
  have f567 := (Nat.le_trans (Nat.le_trans f508 E505.1) (Keep.of_wr W507).1)
  have f568 := ((A502.ext E505).wr W507)
  have ne569 : b502 ≠ b505 := Nat.ne_of_lt (Nat.lt_of_lt_of_le A502.lt (Nat.le_of_eq g505.symm))
  have f570 := ((f504.ext E505).other W507 (Or.inl ne569))
  have f571 := ((f503.ext E505).other W507 (Or.inl ne569))
  have f573 := (own_chW (own_chE (own_chE CH0 E502) E505) W507 (Safe.arv hZ_0.alike f506 (by simp)))
  obtain ⟨_, _, ⟨T572, L572, k572, n572⟩, -, X572s, hs572, hg572, ⟨Lc572, hQ572, l572, y572, z572, ch572⟩, st572⟩ := X507.specialBackS hx (y := xm9) rfl hown (mvT hZ (tw8 hw)) (mvT hZ (tw9 hw)) (mvT hZ (tw10 hw)) (by decide) (backOfSH (W := 1) (rm_String_new_4 l Z a0 hw [] b502 b505 k505 (nar .char c2) cs h507 n0 f567 f510 Z_S_COMPACT_STRINGS f566 hcs hc2 f568 f570 g542 f571) hZ (tw10 hw) (tw6 hw) (by decide) (by decide) (own_EW hw) f573.1) (g := (mkF m 31 #[.val (.int (1 : Int32)), .val (.int c2), .val (.int c3)] [(.ref b505), (.ref b502), (.ref b502)])) rfl (by rw [hml]; rfl) (Steps.refl _) (a := b502) (argsL := [(.ref b505)]) (rest := [(.ref b502)]) (lenOf pd_2 rfl) rfl (by show 2 * 0 + _ ≤ _; exact Nat.le_of_eq rfl) (hb hby d2_31) (fun _ _ => ⟨rfl, e507, (by decide : 2 + 1 ≤ _), (by decide : 5 + 1 ≤ _)⟩)
  dsimp only [Pt.U, Pt.locs, Pt.cells, Pt.slots] at X572s hs572 hg572 l572 y572 z572 st572 hQ572 ch572
  subst l572 y572 z572
  have f574 := (Nat.le_trans (Nat.le_trans (Nat.le_trans (Nat.le_refl _) E502.1) E505.1) (Keep.of_wr W507).1)
  obtain ⟨X572, hS572, hZ572, hown572⟩ := rebS hS0 (by rw [e507]; exact f574) X572s hs572 hg572 hZ hown
  obtain ⟨b516_532_561_572, k516_532_561_572, rfl, N572q, K572, P572_0, P572_1, P572_2, P572_3⟩ := hQ572
  have N575 := Fr.app N511 N572q
  have f576 := f573.trans ch572
  refine GoH.step (fun _ k => st572.trans k) ?_
  show GoH p e below s _ _ _ T572 (mkF m 34 #[.val (.int (1 : Int32)), .val (.int c2), .val (.int c3)] [(.ref b502)])
  have f577 := (Nat.le_trans (Nat.le_refl _) E502.1)
  have z578 := Nat.le_trans f577 (Nat.le_of_eq g505.symm)
  have z579 := Nat.le_trans (Nat.le_refl _) (Nat.le_of_eq g502.symm)
  have f580 := (((((Keep.refl h0 []).ext E502).ext E505).wr W507 (Or.inr z578)).trans K572 (allS (Or.inr z579) all0))
  have f581 := (f568.keep K572)
  have f582 := (Nat.le_trans (Nat.le_trans f577 E505.1) (Keep.of_wr W507).1)
  have z583 := Nat.le_trans f582 P572_2
  have ne584 : b502 ≠ b516_532_561_572 := Nat.ne_of_lt (Nat.lt_of_lt_of_le f568.lt P572_2)
  exact GoH.retA X572 hS572 hx hlk Bd.returns rfl rfl (hb hby d2_34) rfl (Nat.le_refl _) ⟨b502, b516_532_561_572, k516_532_561_572, rfl, N575, f580, z579, f581, P572_1, P572_0, z583, P572_3, ne584⟩ (f576.trans (CHv.at X572 hZ572 (own_EW hw) f576.1)) (by decide) (by decide)

theorem ef_SubjectSetTypeToStringPinLaw_ok_2 (m : MethodId) (x0 : Addr) (x1 : Addr) (x2 : Addr) (x3 : Int32) : entryFrame m #[(.ref x0), (.ref x1), (.ref x2), (.int x3)] 5 = mkF m 0 #[.val (.ref x0), .val (.ref x1), .val (.ref x2), .val (.int x3), .unset] [] := by first | (simp [entryFrame, mkF, argsToLocals, Value.category]; done) | rfl
def Q_SubjectSetTypeToStringPinLaw_ok_2 (Z : State) (b267_404_614 : Addr) (b6_57 : Addr) (b502_587 : Addr) (n631 : Int32) (b297_325_341_364_384_404_614 : Addr) (k297_325_341_364_384_404_614 : ClassId) (n632 : Int32) (l633 : List Value) (cs : Int32) (b13_41_49_57 : Addr) (kb13_41_49_57 : ClassId) (n637 : Int32) (l638 : List Value) (b516_532_561_572_587 : Addr) (k516_532_561_572_587 : ClassId) (n647 : Int32) (l648 : List Value) (x649 : Int32) (fv : Value) (x655 : Int32) (h0 : Heap) (n0 : Nat) (v : Option Value) (h : Heap) (L : List Loc) : Prop := v = some (.int (1 : Int32)) ∧ Fr n0 L ∧ h = h0
set_option maxRecDepth 65536 in
set_option maxHeartbeats 40000000 in
theorem rm_SubjectSetTypeToStringPinLaw_ok_2 (l : Launch) (Z : State) (a0 : Array Value) (hw : ∀ d ∈ tables_1, d.before a0 Z = true) (ws : List Jvm.Cond) (b267_404_614 : Addr) (b6_57 : Addr) (b502_587 : Addr) (n631 : Int32) (b297_325_341_364_384_404_614 : Addr) (k297_325_341_364_384_404_614 : ClassId) (n632 : Int32) (l633 : List Value) (cs : Int32) (b13_41_49_57 : Addr) (kb13_41_49_57 : ClassId) (n637 : Int32) (l638 : List Value) (b516_532_561_572_587 : Addr) (k516_532_561_572_587 : ClassId) (n647 : Int32) (l648 : List Value) (x649 : Int32) (fv : Value) (x655 : Int32) (h0 : Heap) (n0 : Nat) (Z0 : n0 ≤ h0.size) (E_b267_404_614 : Exa Z h0 b267_404_614 xs25) (F_value_b267_404_614 : Fld Z h0 b267_404_614 xs25 "value" "[B" (.ref b297_325_341_364_384_404_614)) (V_b297_325_341_364_384_404_614 : Arv Z h0 b297_325_341_364_384_404_614 k297_325_341_364_384_404_614 .byte n632 l633 (.int (0 : Int32))) (F_coder_b267_404_614 : Fld Z h0 b267_404_614 xs25 "coder" "B" (.int (0 : Int32))) (Z_S_COMPACT_STRINGS : Sta Z Z.heap xs25 xs28 "Z" (.int cs)) (O0 : Old Z n0 h0) (hcs : ¬ cs = (0 : Int32)) (d_636 : n631 < (n632 >>> ((0 : Int32) &&& 31))) (E_b6_57 : Exa Z h0 b6_57 xs25) (F_value_b6_57 : Fld Z h0 b6_57 xs25 "value" "[B" (.ref b13_41_49_57)) (V_b13_41_49_57 : Arv Z h0 b13_41_49_57 kb13_41_49_57 .byte n637 l638 (.int (0 : Int32))) (F_coder_b6_57 : Fld Z h0 b6_57 xs25 "coder" "B" (.int (0 : Int32))) (d_641 : ¬ n631 < (n637 >>> ((0 : Int32) &&& 31))) (d_644 : ¬ n631 = (n637 >>> ((0 : Int32) &&& 31))) (E_b502_587 : Exa Z h0 b502_587 xs25) (F_coder_b502_587 : Fld Z h0 b502_587 xs25 "coder" "B" (.int (0 : Int32))) (F_value_b502_587 : Fld Z h0 b502_587 xs25 "value" "[B" (.ref b516_532_561_572_587)) (V_b516_532_561_572_587 : Arv Z h0 b516_532_561_572_587 k516_532_561_572_587 .byte n647 l648 (.int (0 : Int32))) (pk_650 : (l648 : List Value).getD (((n631 - (n637 >>> ((0 : Int32) &&& 31))) - (1 : Int32))).toNatClampNeg (.int (0 : Int32)) = .int x649) (Z_S_SIOOBE_FORMATTER : Sta Z Z.heap xs8 xs24 xs9 fv) (hfv : fv.isRef = true) (d_651 : ¬ ((n631 - (n637 >>> ((0 : Int32) &&& 31))) - (1 : Int32)) < (0 : Int32)) (d_652 : ((n631 - (n637 >>> ((0 : Int32) &&& 31))) - (1 : Int32)) < n647) (pk_656 : (l633 : List Value).getD (n631).toNatClampNeg (.int (0 : Int32)) = .int x655) (d_657 : ¬ n631 < (0 : Int32)) (d_658 : n631 < n632) (d_661 : (nar .char (nar .char ((x655 &&& (255 : Int32)).toUInt32.toUInt16.toUInt32.toInt32))) = (nar .char (nar .char ((x649 &&& (255 : Int32)).toUInt32.toUInt16.toUInt32.toInt32)))) :
    MetFree l xm35 (head1 (Jvm.Cond.code xm35 method_4_code 5 (some .boolean) :: ws) xr21) (fun a U => a = #[(.ref b267_404_614), (.ref b6_57), (.ref b502_587), (.int n631)] ∧ Z.Warmed39 U.vm ∧ U.heap = h0) (fun _ _ _ _ _ => True) (fun _ U o U' => ∃ v L, o = .returned v ∧ Q_SubjectSetTypeToStringPinLaw_ok_2 Z b267_404_614 b6_57 b502_587 n631 b297_325_341_364_384_404_614 k297_325_341_364_384_404_614 n632 l633 cs b13_41_49_57 kb13_41_49_57 n637 l638 b516_532_561_572_587 k516_532_561_572_587 n647 l648 x649 fv x655 h0 n0 v U'.heap L ∧ FrameEnd U o U' L xr21.cells xr21.slots) := by
  refine MetFree.of_bodySF (plainFor_of_name pn_2) hisR ?_
  intro p e s m args below meth c s₁ Bd hml0 hP hK
  obtain ⟨rfl, hZ, hh⟩ := hP
  have hx := Bd.exec
  have hby := Bd.bytes
  have hlk : meth.locks = false := BodyLoose.notSynchronized Bd
  have hml : c.maxLocals = 5 := hml0
  have hown : s.vm.findClass xs0 = some m.cls := findClass_of_methodNamed Bd.named
  have hnm := (name_of_methodNamed Bd.named Bd.method).1
  have X0 : Stand p l e xr21 s m #[(.ref b267_404_614), (.ref b6_57), (.ref b502_587), (.int n631)] below meth c s₁ [] 0 0 := Stand.of_body Bd
  have e0 : s₁.heap = h0 := by rw [← hh, Bd.state]; rfl
  have N0 := Fr.nil n0
  show Go p e below s (Q_SubjectSetTypeToStringPinLaw_ok_2 Z b267_404_614 b6_57 b502_587 n631 b297_325_341_364_384_404_614 k297_325_341_364_384_404_614 n632 l633 cs b13_41_49_57 kb13_41_49_57 n637 l638 b516_532_561_572_587 k516_532_561_572_587 n647 l648 x649 fv x655 h0 n0) xr21.cells xr21.slots s₁ (entryFrame m #[(.ref b267_404_614), (.ref b6_57), (.ref b502_587), (.int n631)] 5)
  refine Go.cast (ef_SubjectSetTypeToStringPinLaw_ok_2 m b267_404_614 b6_57 b502_587 n631) ?_
  show Go p e below s _ _ _ s₁ (mkF m 0 #[.val (.ref b267_404_614), .val (.ref b6_57), .val (.ref b502_587), .val (.int n631), .unset] [])
  refine Go.step (fun _ k => XS.iloadN X0.here hx rfl (hb hby d29_0) rfl (XS.aloadN X0.here hx rfl (hb hby d29_1) rfl rfl k)) ?_
  show Go p e below s _ _ _ s₁ (mkF m 2 #[.val (.ref b267_404_614), .val (.ref b6_57), .val (.ref b502_587), .val (.int n631), .unset] [(.ref b267_404_614), (.int n631)])
  obtain ⟨cq634, kq634, q634a, q634b, q634c⟩ := isOf hZ e0 E_b267_404_614
  obtain ⟨_, _, ⟨T634, L634, k634, n634⟩, -, X634, ⟨Lc634, hQ634, l634, y634, z634⟩, st634⟩ := X0.virtualBack hx (y := xm19) (z := xm19) hown (mvT hZ (tw159 hw)) (mvT hZ (tw76 hw)) (notFace_of_selects (args := #[]) (mvT hZ (tw78 hw))) (mvT hZ (tw78 hw)) (mvT hZ (tw77 hw)) (by decide) (backOf (W := 1) (rm_String_length_0 l Z a0 hw [] b267_404_614 b297_325_341_364_384_404_614 k297_325_341_364_384_404_614 n632 l633 cs h0 n0 Z0 F_value_b267_404_614 V_b297_325_341_364_384_404_614 E_b267_404_614 Z_S_COMPACT_STRINGS O0 hcs F_coder_b267_404_614) hZ (tw79 hw) (tw6 hw) (by decide) (by decide)) q634a q634c (g := (mkF m 2 #[.val (.ref b267_404_614), .val (.ref b6_57), .val (.ref b502_587), .val (.int n631), .unset] [(.ref b267_404_614), (.int n631)])) rfl (by rw [hml]; rfl) (Steps.refl _) (argsL := []) (rest := [(.int n631)]) (lenOf pd_8 rfl) rfl (by show 2 * 0 + _ ≤ _; exact Nat.le_of_eq rfl) (hb hby d29_2) (fun _ _ => ⟨rfl, e0, (by decide : 0 + 0 ≤ _), (by decide : 0 + 0 ≤ _)⟩)
  dsimp only [Pt.U, Pt.locs, Pt.cells, Pt.slots] at X634 l634 y634 z634 st634 hQ634
  subst l634 y634 z634
  obtain ⟨rfl, N634q, eq634⟩ := hQ634
  have N635 := Fr.app N0 N634q
  refine Go.step (fun _ k => st634.trans (XS.icmpYes X634.here hx rfl (pc0 := 5) (pc' := 10) rfl (hb hby d29_5) rfl (tlt d_636).1 (by decide) (by decide) (XS.iloadN X634.here hx rfl (hb hby d29_10) rfl (XS.aloadN X634.here hx rfl (hb hby d29_11) rfl rfl k)))) ?_
  show Go p e below s _ _ _ T634 (mkF m 12 #[.val (.ref b267_404_614), .val (.ref b6_57), .val (.ref b502_587), .val (.int n631), .unset] [(.ref b6_57), (.int n631)])
  obtain ⟨cq639, kq639, q639a, q639b, q639c⟩ := isOf hZ eq634 E_b6_57
  obtain ⟨_, _, ⟨T639, L639, k639, n639⟩, -, X639, ⟨Lc639, hQ639, l639, y639, z639⟩, st639⟩ := X634.virtualBack hx (y := xm19) (z := xm19) hown (mvT hZ (tw159 hw)) (mvT hZ (tw76 hw)) (notFace_of_selects (args := #[]) (mvT hZ (tw78 hw))) (mvT hZ (tw78 hw)) (mvT hZ (tw77 hw)) (by decide) (backOf (W := 1) (rm_String_length_0 l Z a0 hw [] b6_57 b13_41_49_57 kb13_41_49_57 n637 l638 cs h0 n0 Z0 F_value_b6_57 V_b13_41_49_57 E_b6_57 Z_S_COMPACT_STRINGS O0 hcs F_coder_b6_57) hZ (tw79 hw) (tw6 hw) (by decide) (by decide)) q639a q639c (g := (mkF m 12 #[.val (.ref b267_404_614), .val (.ref b6_57), .val (.ref b502_587), .val (.int n631), .unset] [(.ref b6_57), (.int n631)])) rfl (by rw [hml]; rfl) (Steps.refl _) (argsL := []) (rest := [(.int n631)]) (lenOf pd_8 rfl) rfl (by show 2 * 0 + _ ≤ _; exact Nat.le_of_eq rfl) (hb hby d29_12) (fun _ _ => ⟨rfl, eq634, (by decide : 0 + 0 ≤ _), (by decide : 0 + 0 ≤ _)⟩)
  dsimp only [Pt.U, Pt.locs, Pt.cells, Pt.slots] at X639 l639 y639 z639 st639 hQ639
  subst l639 y639 z639
  obtain ⟨rfl, N639q, eq639⟩ := hQ639
  have N640 := Fr.app N635 N639q
  refine Go.step (fun _ k => st639.trans (XS.icmpYes X639.here hx rfl (pc0 := 15) (pc' := 28) rfl (hb hby d29_15) rfl (flt d_641).2.1 (by decide) (by decide) (XS.iloadN X639.here hx rfl (hb hby d29_28) rfl (XS.aloadN X639.here hx rfl (hb hby d29_29) rfl rfl k)))) ?_
  show Go p e below s _ _ _ T639 (mkF m 30 #[.val (.ref b267_404_614), .val (.ref b6_57), .val (.ref b502_587), .val (.int n631), .unset] [(.ref b6_57), (.int n631)])
  obtain ⟨cq642, kq642, q642a, q642b, q642c⟩ := isOf hZ eq639 E_b6_57
  obtain ⟨_, _, ⟨T642, L642, k642, n642⟩, -, X642, ⟨Lc642, hQ642, l642, y642, z642⟩, st642⟩ := X639.virtualBack hx (y := xm19) (z := xm19) hown (mvT hZ (tw159 hw)) (mvT hZ (tw76 hw)) (notFace_of_selects (args := #[]) (mvT hZ (tw78 hw))) (mvT hZ (tw78 hw)) (mvT hZ (tw77 hw)) (by decide) (backOf (W := 1) (rm_String_length_0 l Z a0 hw [] b6_57 b13_41_49_57 kb13_41_49_57 n637 l638 cs h0 n0 Z0 F_value_b6_57 V_b13_41_49_57 E_b6_57 Z_S_COMPACT_STRINGS O0 hcs F_coder_b6_57) hZ (tw79 hw) (tw6 hw) (by decide) (by decide)) q642a q642c (g := (mkF m 30 #[.val (.ref b267_404_614), .val (.ref b6_57), .val (.ref b502_587), .val (.int n631), .unset] [(.ref b6_57), (.int n631)])) rfl (by rw [hml]; rfl) (Steps.refl _) (argsL := []) (rest := [(.int n631)]) (lenOf pd_8 rfl) rfl (by show 2 * 0 + _ ≤ _; exact Nat.le_of_eq rfl) (hb hby d29_30) (fun _ _ => ⟨rfl, eq639, (by decide : 0 + 0 ≤ _), (by decide : 0 + 0 ≤ _)⟩)
  dsimp only [Pt.U, Pt.locs, Pt.cells, Pt.slots] at X642 l642 y642 z642 st642 hQ642
  subst l642 y642 z642
  obtain ⟨rfl, N642q, eq642⟩ := hQ642
  have N643 := Fr.app N640 N642q
  refine Go.step (fun _ k => st642.trans (XS.icmpYes X642.here hx rfl (pc0 := 33) (pc' := 43) rfl (hb hby d29_33) rfl (feq d_644).2 (by decide) (by decide) (XS.aloadN X642.here hx rfl (hb hby d29_43) rfl rfl (XS.iloadN X642.here hx rfl (hb hby d29_44) rfl (XS.aloadN X642.here hx rfl (hb hby d29_45) rfl rfl k))))) ?_
  show Go p e below s _ _ _ T642 (mkF m 46 #[.val (.ref b267_404_614), .val (.ref b6_57), .val (.ref b502_587), .val (.int n631), .unset] [(.ref b6_57), (.int n631), (.ref b502_587)])
  obtain ⟨cq645, kq645, q645a, q645b, q645c⟩ := isOf hZ eq642 E_b6_57
  obtain ⟨_, _, ⟨T645, L645, k645, n645⟩, -, X645, ⟨Lc645, hQ645, l645, y645, z645⟩, st645⟩ := X642.virtualBack hx (y := xm19) (z := xm19) hown (mvT hZ (tw159 hw)) (mvT hZ (tw76 hw)) (notFace_of_selects (args := #[]) (mvT hZ (tw78 hw))) (mvT hZ (tw78 hw)) (mvT hZ (tw77 hw)) (by decide) (backOf (W := 2) (rm_String_length_0 l Z a0 hw [] b6_57 b13_41_49_57 kb13_41_49_57 n637 l638 cs h0 n0 Z0 F_value_b6_57 V_b13_41_49_57 E_b6_57 Z_S_COMPACT_STRINGS O0 hcs F_coder_b6_57) hZ (tw79 hw) (tw6 hw) (by decide) (by decide)) q645a q645c (g := (mkF m 46 #[.val (.ref b267_404_614), .val (.ref b6_57), .val (.ref b502_587), .val (.int n631), .unset] [(.ref b6_57), (.int n631), (.ref b502_587)])) rfl (by rw [hml]; rfl) (Steps.refl _) (argsL := []) (rest := [(.int n631), (.ref b502_587)]) (lenOf pd_8 rfl) rfl (by show 2 * 0 + _ ≤ _; exact Nat.le_of_eq rfl) (hb hby d29_46) (fun _ _ => ⟨rfl, eq642, (by decide : 0 + 0 ≤ _), (by decide : 0 + 0 ≤ _)⟩)
  dsimp only [Pt.U, Pt.locs, Pt.cells, Pt.slots] at X645 l645 y645 z645 st645 hQ645
  subst l645 y645 z645
  obtain ⟨rfl, N645q, eq645⟩ := hQ645
  have N646 := Fr.app N643 N645q
  refine Go.step (fun _ k => st645.trans (XS.isub X645.here hx rfl (hb hby d29_49) rfl (XS.iconst X645.here hx rfl (hb hby d29_50) (XS.isub X645.here hx rfl (hb hby d29_51) rfl k)))) ?_
  show Go p e below s _ _ _ T645 (mkF m 52 #[.val (.ref b267_404_614), .val (.ref b6_57), .val (.ref b502_587), .val (.int n631), .unset] [(.int ((n631 - (n637 >>> ((0 : Int32) &&& 31))) - (1 : Int32))), (.ref b502_587)])
  obtain ⟨cq653, kq653, q653a, q653b, q653c⟩ := isOf hZ eq645 E_b502_587
  obtain ⟨_, _, ⟨T653, L653, k653, n653⟩, -, X653, ⟨Lc653, hQ653, l653, y653, z653⟩, st653⟩ := X645.virtualBack hx (y := xm16) (z := xm16) hown (mvT hZ (tw163 hw)) (mvT hZ (tw164 hw)) (notFace_of_selects (args := #[]) (mvT hZ (tw166 hw))) (mvT hZ (tw166 hw)) (mvT hZ (tw165 hw)) (by decide) (backOf (W := 0) (rm_String_charAt_0 l Z a0 hw [] b502_587 (((n631 - (n637 >>> ((0 : Int32) &&& 31))) - (1 : Int32))) cs b516_532_561_572_587 k516_532_561_572_587 n647 l648 fv x649 h0 n0 Z0 E_b502_587 Z_S_COMPACT_STRINGS O0 hcs F_coder_b502_587 F_value_b502_587 V_b516_532_561_572_587 Z_S_SIOOBE_FORMATTER hfv pk_650 d_651 d_652) hZ (tw167 hw) (tw6 hw) (by decide) (by decide)) q653a q653c (g := (mkF m 52 #[.val (.ref b267_404_614), .val (.ref b6_57), .val (.ref b502_587), .val (.int n631), .unset] [(.int ((n631 - (n637 >>> ((0 : Int32) &&& 31))) - (1 : Int32))), (.ref b502_587)])) rfl (by rw [hml]; rfl) (Steps.refl _) (argsL := [(.int ((n631 - (n637 >>> ((0 : Int32) &&& 31))) - (1 : Int32)))]) (rest := []) (lenOf pd_23 rfl) rfl (by show 2 * 0 + _ ≤ _; exact Nat.le_of_eq rfl) (hb hby d29_52) (fun _ _ => ⟨rfl, eq645, (by decide : 0 + 0 ≤ _), (by decide : 0 + 0 ≤ _)⟩)
  dsimp only [Pt.U, Pt.locs, Pt.cells, Pt.slots] at X653 l653 y653 z653 st653 hQ653
  subst l653 y653 z653
  obtain ⟨rfl, N653q, eq653⟩ := hQ653
  have N654 := Fr.app N646 N653q
  refine Go.step (fun _ k => st653.trans (XS.istore X653.here hx rfl (hb hby d29_55) rfl (l' := #[.val (.ref b267_404_614), .val (.ref b6_57), .val (.ref b502_587), .val (.int n631), .val (.int (nar .char (nar .char ((x649 &&& (255 : Int32)).toUInt32.toUInt16.toUInt32.toInt32))))]) rfl (XS.aloadN X653.here hx rfl (hb hby d29_57) rfl rfl (XS.iloadN X653.here hx rfl (hb hby d29_58) rfl k)))) ?_
  show Go p e below s _ _ _ T653 (mkF m 59 #[.val (.ref b267_404_614), .val (.ref b6_57), .val (.ref b502_587), .val (.int n631), .val (.int (nar .char (nar .char ((x649 &&& (255 : Int32)).toUInt32.toUInt16.toUInt32.toInt32))))] [(.int n631), (.ref b267_404_614)])
  obtain ⟨cq659, kq659, q659a, q659b, q659c⟩ := isOf hZ eq653 E_b267_404_614
  obtain ⟨_, _, ⟨T659, L659, k659, n659⟩, -, X659, ⟨Lc659, hQ659, l659, y659, z659⟩, st659⟩ := X653.virtualBack hx (y := xm16) (z := xm16) hown (mvT hZ (tw163 hw)) (mvT hZ (tw164 hw)) (notFace_of_selects (args := #[]) (mvT hZ (tw166 hw))) (mvT hZ (tw166 hw)) (mvT hZ (tw165 hw)) (by decide) (backOf (W := 0) (rm_String_charAt_0 l Z a0 hw [] b267_404_614 n631 cs b297_325_341_364_384_404_614 k297_325_341_364_384_404_614 n632 l633 fv x655 h0 n0 Z0 E_b267_404_614 Z_S_COMPACT_STRINGS O0 hcs F_coder_b267_404_614 F_value_b267_404_614 V_b297_325_341_364_384_404_614 Z_S_SIOOBE_FORMATTER hfv pk_656 d_657 d_658) hZ (tw167 hw) (tw6 hw) (by decide) (by decide)) q659a q659c (g := (mkF m 59 #[.val (.ref b267_404_614), .val (.ref b6_57), .val (.ref b502_587), .val (.int n631), .val (.int (nar .char (nar .char ((x649 &&& (255 : Int32)).toUInt32.toUInt16.toUInt32.toInt32))))] [(.int n631), (.ref b267_404_614)])) rfl (by rw [hml]; rfl) (Steps.refl _) (argsL := [(.int n631)]) (rest := []) (lenOf pd_23 rfl) rfl (by show 2 * 0 + _ ≤ _; exact Nat.le_of_eq rfl) (hb hby d29_59) (fun _ _ => ⟨rfl, eq653, (by decide : 0 + 0 ≤ _), (by decide : 0 + 0 ≤ _)⟩)
  dsimp only [Pt.U, Pt.locs, Pt.cells, Pt.slots] at X659 l659 y659 z659 st659 hQ659
  subst l659 y659 z659
  obtain ⟨rfl, N659q, eq659⟩ := hQ659
  have N660 := Fr.app N654 N659q
  refine Go.step (fun _ k => st659.trans (XS.iload X659.here hx rfl (hb hby d29_62) rfl (XS.icmpNo X659.here hx rfl (hb hby d29_64) rfl (teq d_661).2 (XS.iconst X659.here hx rfl (hb hby d29_67) (XS.goto X659.here hx rfl (pc0 := 68) (pc' := 72) rfl (hb hby d29_68) (by decide) (by decide) k))))) ?_
  show Go p e below s _ _ _ T659 (mkF m 72 #[.val (.ref b267_404_614), .val (.ref b6_57), .val (.ref b502_587), .val (.int n631), .val (.int (nar .char (nar .char ((x649 &&& (255 : Int32)).toUInt32.toUInt16.toUInt32.toInt32))))] [(.int (1 : Int32))])
  exact Go.retN X659 hx hlk (t := .boolean) Bd.returns (by simp) (hb hby d29_72) eq659 ⟨rfl, N660, rfl⟩ (by decide) (by decide)

theorem ef_StringUTF16_compress_3 (m : MethodId) (x0 : Addr) (x1 : Int32) (x2 : Addr) (x3 : Int32) (x4 : Int32) : entryFrame m #[(.ref x0), (.int x1), (.ref x2), (.int x3), (.int x4)] 7 = mkF m 0 #[.val (.ref x0), .val (.int x1), .val (.ref x2), .val (.int x3), .val (.int x4), .unset, .unset] [] := by first | (simp [entryFrame, mkF, argsToLocals, Value.category]; done) | rfl
def Q_StringUTF16_compress_3 (Z : State) (b677 : Addr) (b692 : Addr) (k677 : ClassId) (v687 : Int32) (v688 : Int32) (k692 : ClassId) (h0 : Heap) (n0 : Nat) (v : Option Value) (h : Heap) (L : List Loc) : Prop := v = some (.int (2 : Int32)) ∧ Fr n0 L ∧ Keep h0 h [b692] ∧ Arv Z h b692 k692 .byte (2 : Int32) [(.int (nar .byte (v687.toInt8.toInt32))), (.int (nar .byte (v688.toInt8.toInt32)))] (.int (0 : Int32))
set_option maxRecDepth 65536 in
set_option maxHeartbeats 40000000 in
theorem rm_StringUTF16_compress_3 (l : Launch) (Z : State) (a0 : Array Value) (hw : ∀ d ∈ tables_1, d.before a0 Z = true) (ws : List Jvm.Cond) (b677 : Addr) (b692 : Addr) (k677 : ClassId) (v687 : Int32) (v688 : Int32) (k692 : ClassId) (h0 : Heap) (n0 : Nat) (Z0 : n0 ≤ h0.size) (V_b677 : Arv Z h0 b677 k677 .char (2 : Int32) [(.int v687), (.int v688)] (.int (0 : Int32))) (hc2 : ¬ (255 : Int32) < v687) (V_b692 : Arv Z h0 b692 k692 .byte (2 : Int32) [(.int (0 : Int32)), (.int (0 : Int32))] (.int (0 : Int32))) (g_b692 : n0 ≤ b692) (ne_b677_b692 : b677 ≠ b692) (hc3 : ¬ (255 : Int32) < v688) :
    MetFree l xm1 (head1 (Jvm.Cond.code xm1 jdk_52_method_21_code 7 (some .int) :: ws) xr31) (fun a U => a = #[(.ref b677), (.int (0 : Int32)), (.ref b692), (.int (0 : Int32)), (.int (2 : Int32))] ∧ Z.Warmed39 U.vm ∧ U.heap = h0) (fun _ _ _ _ _ => True) (fun _ U o U' => ∃ v L, o = .returned v ∧ Q_StringUTF16_compress_3 Z b677 b692 k677 v687 v688 k692 h0 n0 v U'.heap L ∧ FrameEnd U o U' L xr31.cells xr31.slots) := by
  refine MetFree.of_bodySF (plainFor_of_name pn_9) hisR ?_
  intro p e s m args below meth c s₁ Bd hml0 hP hK
  obtain ⟨rfl, hZ, hh⟩ := hP
  have hx := Bd.exec
  have hby := Bd.bytes
  have hlk : meth.locks = false := BodyLoose.notSynchronized Bd
  have hml : c.maxLocals = 7 := hml0
  have hown : s.vm.findClass xs19 = some m.cls := findClass_of_methodNamed Bd.named
  have hnm := (name_of_methodNamed Bd.named Bd.method).1
  have X0 : Stand p l e xr31 s m #[(.ref b677), (.int (0 : Int32)), (.ref b692), (.int (0 : Int32)), (.int (2 : Int32))] below meth c s₁ [] 0 0 := Stand.of_body Bd
  have e0 : s₁.heap = h0 := by rw [← hh, Bd.state]; rfl
  have N0 := Fr.nil n0
  show Go p e below s (Q_StringUTF16_compress_3 Z b677 b692 k677 v687 v688 k692 h0 n0) xr31.cells xr31.slots s₁ (entryFrame m #[(.ref b677), (.int (0 : Int32)), (.ref b692), (.int (0 : Int32)), (.int (2 : Int32))] 7)
  refine Go.cast (ef_StringUTF16_compress_3 m b677 (0 : Int32) b692 (0 : Int32) (2 : Int32)) ?_
  show Go p e below s _ _ _ s₁ (mkF m 0 #[.val (.ref b677), .val (.int (0 : Int32)), .val (.ref b692), .val (.int (0 : Int32)), .val (.int (2 : Int32)), .unset, .unset] [])
  refine Go.step (fun _ k => XS.iconst X0.here hx rfl (hb hby d34_0) (XS.istore X0.here hx rfl (hb hby d34_1) rfl (l' := #[.val (.ref b677), .val (.int (0 : Int32)), .val (.ref b692), .val (.int (0 : Int32)), .val (.int (2 : Int32)), .val (.int (0 : Int32)), .unset]) rfl (XS.iload X0.here hx rfl (hb hby d34_3) rfl (XS.iload X0.here hx rfl (hb hby d34_5) rfl (XS.icmpNo X0.here hx rfl (hb hby d34_7) rfl (tlt (by decide)).2.1 (XS.aloadN X0.here hx rfl (hb hby d34_10) rfl rfl (XS.iloadN X0.here hx rfl (hb hby d34_11) rfl k))))))) ?_
  show Go p e below s _ _ _ s₁ (mkF m 12 #[.val (.ref b677), .val (.int (0 : Int32)), .val (.ref b692), .val (.int (0 : Int32)), .val (.int (2 : Int32)), .val (.int (0 : Int32)), .unset] [(.int (0 : Int32)), (.ref b677)])
  obtain ⟨cl694, Ar694, -, Sz694, Ng694, Hs694, Ft694⟩ := id V_b677
  have in694 : ¬ ((0 : Int32) < 0 ∨ cl694.slots.size ≤ ((0 : Int32)).toNatClampNeg) := (inb_of Sz694 ⟨by decide, by decide⟩)
  have at694 : cl694.slots[((0 : Int32)).toNatClampNeg]? = some (.int v687) := Hs694.at in694 rfl
  refine Go.step (fun _ k => X0.caload hx (j := (0 : Int32)) (v := (.int v687)) (by rw [e0]; exact Ar694.1) (State.isArrayOf_alike hZ.alike Ar694.2.1) Ar694.2.2 in694 at694 (g := (mkF m 12 #[.val (.ref b677), .val (.int (0 : Int32)), .val (.ref b692), .val (.int (0 : Int32)), .val (.int (2 : Int32)), .val (.int (0 : Int32)), .unset] [(.int (0 : Int32)), (.ref b677)])) rfl rfl (hb hby d34_12) _ (XS.istore X0.here hx rfl (hb hby d34_13) rfl (l' := #[.val (.ref b677), .val (.int (0 : Int32)), .val (.ref b692), .val (.int (0 : Int32)), .val (.int (2 : Int32)), .val (.int (0 : Int32)), .val (.int v687)]) rfl (XS.iload X0.here hx rfl (hb hby d34_15) rfl (XS.sipush X0.here hx rfl (hb hby d34_17) (XS.icmpYes X0.here hx rfl (pc0 := 20) (pc' := 26) rfl (hb hby d34_20) rfl (flt hc2).2.2.2 (by decide) (by decide) (XS.aloadN X0.here hx rfl (hb hby d34_26) rfl rfl (XS.iloadN X0.here hx rfl (hb hby d34_27) rfl (XS.iload X0.here hx rfl (hb hby d34_28) rfl (XS.i2b X0.here hx rfl (hb hby d34_30) rfl k))))))))) ?_
  show Go p e below s _ _ _ s₁ (mkF m 31 #[.val (.ref b677), .val (.int (0 : Int32)), .val (.ref b692), .val (.int (0 : Int32)), .val (.int (2 : Int32)), .val (.int (0 : Int32)), .val (.int v687)] [(.int (v687.toInt8.toInt32)), (.int (0 : Int32)), (.ref b692)])
  obtain ⟨cl695, Ar695, qq695, Sz695, Ng695, Hs695, Ft695⟩ := id V_b692
  have in695 : ¬ ((0 : Int32) < 0 ∨ cl695.slots.size ≤ ((0 : Int32)).toNatClampNeg) := (inb_of Sz695 ⟨by decide, by decide⟩)
  obtain ⟨T695, h695, X695, e695, W695, st695⟩ := stB X0 hx hZ e0 Ar695 (j := (0 : Int32)) in695 (g := (mkF m 31 #[.val (.ref b677), .val (.int (0 : Int32)), .val (.ref b692), .val (.int (0 : Int32)), .val (.int (2 : Int32)), .val (.int (0 : Int32)), .val (.int v687)] [(.int (v687.toInt8.toInt32)), (.int (0 : Int32)), (.ref b692)])) rfl rfl (hb hby d34_31)
  have f697 : Arv Z h695 b692 k692 .byte (2 : Int32) [(.int (nar .byte (v687.toInt8.toInt32))), (.int (0 : Int32))] (.int (0 : Int32)) := Arv.set Ar695 qq695 Sz695 Ng695 Hs695 Ft695 (fits_nar_byte _) W695 0 rfl (Nat.le_of_ble_eq_true rfl)
  have N698 := Fr.snoc X695 N0 g_b692
  refine Go.step (fun _ k => st695 _ (XS.iinc X695.here hx rfl (hb hby d34_32) rfl (l' := #[.val (.ref b677), .val (.int ((0 : Int32) + (1 : Int32))), .val (.ref b692), .val (.int (0 : Int32)), .val (.int (2 : Int32)), .val (.int (0 : Int32)), .val (.int v687)]) rfl (XS.iinc X695.here hx rfl (hb hby d34_35) rfl (l' := #[.val (.ref b677), .val (.int (1 : Int32)), .val (.ref b692), .val (.int ((0 : Int32) + (1 : Int32))), .val (.int (2 : Int32)), .val (.int (0 : Int32)), .val (.int v687)]) rfl (XS.iinc X695.here hx rfl (hb hby d34_38) rfl (l' := #[.val (.ref b677), .val (.int (1 : Int32)), .val (.ref b692), .val (.int (1 : Int32)), .val (.int (2 : Int32)), .val (.int ((0 : Int32) + (1 : Int32))), .val (.int v687)]) rfl (XS.goto X695.here hx rfl (pc0 := 41) (pc' := 3) rfl (hb hby d34_41) (by decide) (by decide) (XS.iload X695.here hx rfl (hb hby d34_3) rfl (XS.iload X695.here hx rfl (hb hby d34_5) rfl (XS.icmpNo X695.here hx rfl (hb hby d34_7) rfl (tlt (by decide)).2.1 (XS.aloadN X695.here hx rfl (hb hby d34_10) rfl rfl (XS.iloadN X695.here hx rfl (hb hby d34_11) rfl k)))))))))) ?_
  show Go p e below s _ _ _ T695 (mkF m 12 #[.val (.ref b677), .val (.int (1 : Int32)), .val (.ref b692), .val (.int (1 : Int32)), .val (.int (2 : Int32)), .val (.int (1 : Int32)), .val (.int v687)] [(.int (1 : Int32)), (.ref b677)])
  have f700 := (V_b677.other W695 ne_b677_b692)
  obtain ⟨cl701, Ar701, -, Sz701, Ng701, Hs701, Ft701⟩ := id f700
  have in701 : ¬ ((1 : Int32) < 0 ∨ cl701.slots.size ≤ ((1 : Int32)).toNatClampNeg) := (inb_of Sz701 ⟨by decide, by decide⟩)
  have at701 : cl701.slots[((1 : Int32)).toNatClampNeg]? = some (.int v688) := Hs701.at in701 rfl
  refine Go.step (fun _ k => X695.caload hx (j := (1 : Int32)) (v := (.int v688)) (by rw [e695]; exact Ar701.1) (State.isArrayOf_alike hZ.alike Ar701.2.1) Ar701.2.2 in701 at701 (g := (mkF m 12 #[.val (.ref b677), .val (.int (1 : Int32)), .val (.ref b692), .val (.int (1 : Int32)), .val (.int (2 : Int32)), .val (.int (1 : Int32)), .val (.int v687)] [(.int (1 : Int32)), (.ref b677)])) rfl rfl (hb hby d34_12) _ (XS.istore X695.here hx rfl (hb hby d34_13) rfl (l' := #[.val (.ref b677), .val (.int (1 : Int32)), .val (.ref b692), .val (.int (1 : Int32)), .val (.int (2 : Int32)), .val (.int (1 : Int32)), .val (.int v688)]) rfl (XS.iload X695.here hx rfl (hb hby d34_15) rfl (XS.sipush X695.here hx rfl (hb hby d34_17) (XS.icmpYes X695.here hx rfl (pc0 := 20) (pc' := 26) rfl (hb hby d34_20) rfl (flt hc3).2.2.2 (by decide) (by decide) (XS.aloadN X695.here hx rfl (hb hby d34_26) rfl rfl (XS.iloadN X695.here hx rfl (hb hby d34_27) rfl (XS.iload X695.here hx rfl (hb hby d34_28) rfl (XS.i2b X695.here hx rfl (hb hby d34_30) rfl k))))))))) ?_
  show Go p e below s _ _ _ T695 (mkF m 31 #[.val (.ref b677), .val (.int (1 : Int32)), .val (.ref b692), .val (.int (1 : Int32)), .val (.int (2 : Int32)), .val (.int (1 : Int32)), .val (.int v688)] [(.int (v688.toInt8.toInt32)), (.int (1 : Int32)), (.ref b692)])
  obtain ⟨cl702, Ar702, qq702, Sz702, Ng702, Hs702, Ft702⟩ := id f697
  have in702 : ¬ ((1 : Int32) < 0 ∨ cl702.slots.size ≤ ((1 : Int32)).toNatClampNeg) := (inb_of Sz702 ⟨by decide, by decide⟩)
  obtain ⟨T702, h702, X702, e702, W702, st702⟩ := stB X695 hx hZ e695 Ar702 (j := (1 : Int32)) in702 (g := (mkF m 31 #[.val (.ref b677), .val (.int (1 : Int32)), .val (.ref b692), .val (.int (1 : Int32)), .val (.int (2 : Int32)), .val (.int (1 : Int32)), .val (.int v688)] [(.int (v688.toInt8.toInt32)), (.int (1 : Int32)), (.ref b692)])) rfl rfl (hb hby d34_31)
  have f703 : Arv Z h702 b692 k692 .byte (2 : Int32) [(.int (nar .byte (v687.toInt8.toInt32))), (.int (nar .byte (v688.toInt8.toInt32)))] (.int (0 : Int32)) := Arv.set Ar702 qq702 Sz702 Ng702 Hs702 Ft702 (fits_nar_byte _) W702 1 rfl (Nat.le_of_ble_eq_true rfl)
  have N704 := Fr.snoc X702 N698 g_b692
  refine Go.step (fun _ k => st702 _ (XS.iinc X702.here hx rfl (hb hby d34_32) rfl (l' := #[.val (.ref b677), .val (.int ((1 : Int32) + (1 : Int32))), .val (.ref b692), .val (.int (1 : Int32)), .val (.int (2 : Int32)), .val (.int (1 : Int32)), .val (.int v688)]) rfl (XS.iinc X702.here hx rfl (hb hby d34_35) rfl (l' := #[.val (.ref b677), .val (.int (2 : Int32)), .val (.ref b692), .val (.int ((1 : Int32) + (1 : Int32))), .val (.int (2 : Int32)), .val (.int (1 : Int32)), .val (.int v688)]) rfl (XS.iinc X702.here hx rfl (hb hby d34_38) rfl (l' := #[.val (.ref b677), .val (.int (2 : Int32)), .val (.ref b692), .val (.int (2 : Int32)), .val (.int (2 : Int32)), .val (.int ((1 : Int32) + (1 : Int32))), .val (.int v688)]) rfl (XS.goto X702.here hx rfl (pc0 := 41) (pc' := 3) rfl (hb hby d34_41) (by decide) (by decide) (XS.iload X702.here hx rfl (hb hby d34_3) rfl (XS.iload X702.here hx rfl (hb hby d34_5) rfl (XS.icmpYes X702.here hx rfl (pc0 := 7) (pc' := 44) rfl (hb hby d34_7) rfl (flt (by decide)).2.1 (by decide) (by decide) (XS.iload X702.here hx rfl (hb hby d34_44) rfl k))))))))) ?_
  show Go p e below s _ _ _ T702 (mkF m 46 #[.val (.ref b677), .val (.int (2 : Int32)), .val (.ref b692), .val (.int (2 : Int32)), .val (.int (2 : Int32)), .val (.int (2 : Int32)), .val (.int v688)] [(.int (2 : Int32))])
  have f705 := (((Keep.refl h0 [b692]).wr W695 (Or.inl (List.mem_of_getElem? (i := 0) rfl))).wr W702 (Or.inl (List.mem_of_getElem? (i := 0) rfl)))
  have f706 := (Nat.le_trans (Nat.le_trans (Nat.le_refl _) (Keep.of_wr W695).1) (Keep.of_wr W702).1)
  exact Go.retI X702 hx hlk Bd.returns (hb hby d34_46) e702 ⟨rfl, N704, f705, f703⟩ (by decide) (by decide)

theorem ef_StringUTF16_compress_2 (m : MethodId) (x0 : Addr) (x1 : Int32) (x2 : Int32) : entryFrame m #[(.ref x0), (.int x1), (.int x2)] 6 = mkF m 0 #[.val (.ref x0), .val (.int x1), .val (.int x2), .unset, .unset, .unset] [] := by first | (simp [entryFrame, mkF, argsToLocals, Value.category]; done) | rfl
def Q_StringUTF16_compress_2 (Z : State) (b677 : Addr) (k677 : ClassId) (v687 : Int32) (v688 : Int32) (h0 : Heap) (n0 : Nat) (v : Option Value) (h : Heap) (L : List Loc) : Prop := ∃ (b692 : Addr) (k692 : ClassId), v = some (.ref b692) ∧ Fr n0 L ∧ Keep h0 h [] ∧ h0.size ≤ b692 ∧ Arv Z h b692 k692 .byte (2 : Int32) [(.int (nar .byte (v687.toInt8.toInt32))), (.int (nar .byte (v688.toInt8.toInt32)))] (.int (0 : Int32))
set_option maxRecDepth 65536 in
set_option maxHeartbeats 40000000 in
theorem rm_StringUTF16_compress_2 (l : Launch) (Z : State) (a0 : Array Value) (hw : ∀ d ∈ tables_1, d.before a0 Z = true) (ws : List Jvm.Cond) (b677 : Addr) (k677 : ClassId) (v687 : Int32) (v688 : Int32) (h0 : Heap) (n0 : Nat) (Z0 : n0 ≤ h0.size) (V_b677 : Arv Z h0 b677 k677 .char (2 : Int32) [(.int v687), (.int v688)] (.int (0 : Int32))) (hc2 : ¬ (255 : Int32) < v687) (hc3 : ¬ (255 : Int32) < v688) :
    MetFree l xm3 (head1 (Jvm.Cond.code xm3 jdk_52_method_16_code 6 (some (.array .byte)) :: ws) xr27) (fun a U => a = #[(.ref b677), (.int (0 : Int32)), (.int (2 : Int32))] ∧ Z.Warmed39 U.vm ∧ U.heap = h0) (fun _ _ _ _ _ => True) (fun _ U o U' => ∃ v L, o = .returned v ∧ Q_StringUTF16_compress_2 Z b677 k677 v687 v688 h0 n0 v U'.heap L ∧ FrameEnd U o U' L xr27.cells xr27.slots) := by
  refine MetFree.of_bodySF (plainFor_of_name pn_9) hisR ?_
  intro p e s m args below meth c s₁ Bd hml0 hP hK
  obtain ⟨rfl, hZ, hh⟩ := hP
  have hx := Bd.exec
  have hby := Bd.bytes
  have hlk : meth.locks = false := BodyLoose.notSynchronized Bd
  have hml : c.maxLocals = 6 := hml0
  have hown : s.vm.findClass xs19 = some m.cls := findClass_of_methodNamed Bd.named
  have hnm := (name_of_methodNamed Bd.named Bd.method).1
  have X0 : Stand p l e xr27 s m #[(.ref b677), (.int (0 : Int32)), (.int (2 : Int32))] below meth c s₁ [] 0 0 := Stand.of_body Bd
  have e0 : s₁.heap = h0 := by rw [← hh, Bd.state]; rfl
  have N0 := Fr.nil n0
  show Go p e below s (Q_StringUTF16_compress_2 Z b677 k677 v687 v688 h0 n0) xr27.cells xr27.slots s₁ (entryFrame m #[(.ref b677), (.int (0 : Int32)), (.int (2 : Int32))] 6)
  refine Go.cast (ef_StringUTF16_compress_2 m b677 (0 : Int32) (2 : Int32)) ?_
  show Go p e below s _ _ _ s₁ (mkF m 0 #[.val (.ref b677), .val (.int (0 : Int32)), .val (.int (2 : Int32)), .unset, .unset, .unset] [])
  refine Go.step (fun _ k => XS.iloadN X0.here hx rfl (hb hby d33_0) rfl k) ?_
  show Go p e below s _ _ _ s₁ (mkF m 1 #[.val (.ref b677), .val (.int (0 : Int32)), .val (.int (2 : Int32)), .unset, .unset, .unset] [(.int (2 : Int32))])
  obtain ⟨T692, h692, k692, X692, e692, E692, A692, st692⟩ := newP (aty := .byte) X0 hx hZ (tw19 hw) e0 (g := (mkF m 1 #[.val (.ref b677), .val (.int (0 : Int32)), .val (.int (2 : Int32)), .unset, .unset, .unset] [(.int (2 : Int32))])) rfl (hb hby d33_1) rfl (by decide) (cap := 2) (by decide) (by decide) (by decide) (by decide)
  obtain ⟨b692, g692⟩ : ∃ z, z = h0.size := ⟨_, rfl⟩
  rw [← g692] at A692 st692
  have f693 : Arv Z h692 b692 k692 .byte (2 : Int32) [(.int (0 : Int32)), (.int (0 : Int32))] (.int (0 : Int32)) := (Arv.new A692 (by decide)).pad (pad_rep [] (.int (0 : Int32)) 2)
  refine Go.step (fun _ k => st692 _ (XS.astoreN X692.here hx rfl (hb hby d33_3) rfl rfl (l' := #[.val (.ref b677), .val (.int (0 : Int32)), .val (.int (2 : Int32)), .val (.ref b692), .unset, .unset]) rfl (XS.aloadN X692.here hx rfl (hb hby d33_4) rfl rfl (XS.iloadN X692.here hx rfl (hb hby d33_5) rfl (XS.aloadN X692.here hx rfl (hb hby d33_6) rfl rfl (XS.iconst X692.here hx rfl (hb hby d33_7) (XS.iloadN X692.here hx rfl (hb hby d33_8) rfl k))))))) ?_
  show Go p e below s _ _ _ T692 (mkF m 9 #[.val (.ref b677), .val (.int (0 : Int32)), .val (.int (2 : Int32)), .val (.ref b692), .unset, .unset] [(.int (2 : Int32)), (.int (0 : Int32)), (.ref b692), (.int (0 : Int32)), (.ref b677)])
  have g696 := Nat.le_trans Z0 (Nat.le_of_eq g692.symm)
  have ne699 : b677 ≠ b692 := Nat.ne_of_lt (Nat.lt_of_lt_of_le V_b677.lt (Nat.le_of_eq g692.symm))
  have f707 := (Nat.le_trans Z0 E692.1)
  have f708 := (V_b677.ext E692)
  obtain ⟨_, _, ⟨T709, L709, k709, n709⟩, -, X709, ⟨Lc709, hQ709, l709, y709, z709⟩, st709⟩ := Jvm.LawKit.callS X692 hx (y := xm1) hown (mvT hZ (tw189 hw)) (mvT hZ (tw190 hw)) (mvT hZ (tw187 hw)) (mvT hZ (tw191 hw)) (by decide) (backOf (W := 0) (rm_StringUTF16_compress_3 l Z a0 hw [] b677 b692 k677 v687 v688 k692 h692 n0 f707 f708 hc2 f693 g696 ne699 hc3) hZ (tw191 hw) (tw187 hw) (by decide) (by decide)) (g := (mkF m 9 #[.val (.ref b677), .val (.int (0 : Int32)), .val (.int (2 : Int32)), .val (.ref b692), .unset, .unset] [(.int (2 : Int32)), (.int (0 : Int32)), (.ref b692), (.int (0 : Int32)), (.ref b677)])) rfl (by rw [hml]; rfl) (argsL := [(.ref b677), (.int (0 : Int32)), (.ref b692), (.int (0 : Int32)), (.int (2 : Int32))]) (rest := []) (lenOf pd_25 rfl) rfl (by show 2 * 0 + _ ≤ _; exact Nat.le_of_eq rfl) (hb hby d33_9) (fun _ _ => ⟨rfl, e692, (by decide : 1 + 0 ≤ _), (by decide : 2 + 0 ≤ _)⟩)
  dsimp only [Pt.U, Pt.locs, Pt.cells, Pt.slots] at X709 l709 y709 z709 st709 hQ709
  subst l709 y709 z709
  obtain ⟨rfl, N709q, K709, P709_0⟩ := hQ709
  have N710 := Fr.app N0 N709q
  refine Go.step (fun _ k => st709 _ (XS.istore X709.here hx rfl (hb hby d33_12) rfl (l' := #[.val (.ref b677), .val (.int (0 : Int32)), .val (.int (2 : Int32)), .val (.ref b692), .val (.int (2 : Int32)), .unset]) rfl (XS.iload X709.here hx rfl (hb hby d33_14) rfl (XS.iloadN X709.here hx rfl (hb hby d33_16) rfl (XS.icmpYes X709.here hx rfl (pc0 := 17) (pc' := 57) rfl (hb hby d33_17) rfl (teq (by decide)).1 (by decide) (by decide) (XS.aloadN X709.here hx rfl (hb hby d33_57) rfl rfl k)))))) ?_
  show Go p e below s _ _ _ T709 (mkF m 58 #[.val (.ref b677), .val (.int (0 : Int32)), .val (.int (2 : Int32)), .val (.ref b692), .val (.int (2 : Int32)), .unset] [(.ref b692)])
  have z711 := Nat.le_trans (Nat.le_refl _) (Nat.le_of_eq g692.symm)
  have f712 := (((Keep.refl h0 []).ext E692).trans K709 (allS (Or.inr z711) all0))
  have f713 := (Nat.le_trans (Nat.le_trans (Nat.le_refl _) E692.1) K709.1)
  exact Go.retA X709 hx hlk Bd.returns rfl rfl (hb hby d33_58) rfl ⟨b692, k692, rfl, N710, f712, z711, P709_0⟩ (by decide) (by decide)

theorem ef_StringUTF16_coderFromArrayLen_1 (m : MethodId) (x0 : Addr) (x1 : Int32) : entryFrame m #[(.ref x0), (.int x1)] 2 = mkF m 0 #[.val (.ref x0), .val (.int x1)] [] := by first | (simp [entryFrame, mkF, argsToLocals, Value.category]; done) | rfl
def Q_StringUTF16_coderFromArrayLen_1 (Z : State) (b692_714 : Addr) (k692_714 : ClassId) (v716 : Int32) (v717 : Int32) (h0 : Heap) (n0 : Nat) (v : Option Value) (h : Heap) (L : List Loc) : Prop := v = some (.int (0 : Int32)) ∧ Fr n0 L ∧ h = h0
set_option maxRecDepth 65536 in
set_option maxHeartbeats 40000000 in
theorem rm_StringUTF16_coderFromArrayLen_1 (l : Launch) (Z : State) (a0 : Array Value) (hw : ∀ d ∈ tables_1, d.before a0 Z = true) (ws : List Jvm.Cond) (b692_714 : Addr) (k692_714 : ClassId) (v716 : Int32) (v717 : Int32) (h0 : Heap) (n0 : Nat) (Z0 : n0 ≤ h0.size) (V_b692_714 : Arv Z h0 b692_714 k692_714 .byte (2 : Int32) [(.int v716), (.int v717)] (.int (0 : Int32))) :
    MetFree l xm27 (head1 (Jvm.Cond.code xm27 jdk_52_method_15_code 2 (some .byte) :: ws) xr31) (fun a U => a = #[(.ref b692_714), (.int (2 : Int32))] ∧ Z.Warmed39 U.vm ∧ U.heap = h0) (fun _ _ _ _ _ => True) (fun _ U o U' => ∃ v L, o = .returned v ∧ Q_StringUTF16_coderFromArrayLen_1 Z b692_714 k692_714 v716 v717 h0 n0 v U'.heap L ∧ FrameEnd U o U' L xr31.cells xr31.slots) := by
  refine MetFree.of_bodySF (plainFor_of_name pn_9) hisR ?_
  intro p e s m args below meth c s₁ Bd hml0 hP hK
  obtain ⟨rfl, hZ, hh⟩ := hP
  have hx := Bd.exec
  have hby := Bd.bytes
  have hlk : meth.locks = false := BodyLoose.notSynchronized Bd
  have hml : c.maxLocals = 2 := hml0
  have hown : s.vm.findClass xs19 = some m.cls := findClass_of_methodNamed Bd.named
  have hnm := (name_of_methodNamed Bd.named Bd.method).1
  have X0 : Stand p l e xr31 s m #[(.ref b692_714), (.int (2 : Int32))] below meth c s₁ [] 0 0 := Stand.of_body Bd
  have e0 : s₁.heap = h0 := by rw [← hh, Bd.state]; rfl
  have N0 := Fr.nil n0
  show Go p e below s (Q_StringUTF16_coderFromArrayLen_1 Z b692_714 k692_714 v716 v717 h0 n0) xr31.cells xr31.slots s₁ (entryFrame m #[(.ref b692_714), (.int (2 : Int32))] 2)
  refine Go.cast (ef_StringUTF16_coderFromArrayLen_1 m b692_714 (2 : Int32)) ?_
  show Go p e below s _ _ _ s₁ (mkF m 0 #[.val (.ref b692_714), .val (.int (2 : Int32))] [])
  refine Go.step (fun _ k => XS.iloadN X0.here hx rfl (hb hby d35_0) rfl (XS.aloadN X0.here hx rfl (hb hby d35_1) rfl rfl k)) ?_
  show Go p e below s _ _ _ s₁ (mkF m 2 #[.val (.ref b692_714), .val (.int (2 : Int32))] [(.ref b692_714), (.int (2 : Int32))])
  obtain ⟨cl718, Ar718, -, Sz718, Ng718, -, -⟩ := id V_b692_714
  have aln718 := X0.arraylength hx (by rw [e0]; exact Ar718.1) (State.isArrayOf_alike hZ.alike Ar718.2.1) (g := (mkF m 2 #[.val (.ref b692_714), .val (.int (2 : Int32))] [(.ref b692_714), (.int (2 : Int32))])) rfl rfl (hb hby d35_2)
  rw [len_of Sz718 Ng718] at aln718
  refine Go.step (fun _ k => aln718 _ (XS.isub X0.here hx rfl (hb hby d35_3) rfl (XS.bipush X0.here hx rfl (hb hby d35_4) (XS.iushr X0.here hx rfl (hb hby d35_6) rfl (XS.i2b X0.here hx rfl (hb hby d35_7) rfl k))))) ?_
  show Go p e below s _ _ _ s₁ (mkF m 8 #[.val (.ref b692_714), .val (.int (2 : Int32))] [(.int (0 : Int32))])
  exact Go.retN X0 hx hlk (t := .byte) Bd.returns (by simp) (hb hby d35_8) e0 ⟨rfl, N0, rfl⟩ (by decide) (by decide)

theorem ef_String_new_7 (m : MethodId) (x0 : Addr) (x1 : Addr) (x2 : Int32) (x3 : Int32) : entryFrame m #[(.ref x0), (.ref x1), (.int x2), (.int x3), .null] 6 = mkF m 0 #[.val (.ref x0), .val (.ref x1), .val (.int x2), .val (.int x3), .val .null, .unset] [] := by first | (simp [entryFrame, mkF, argsToLocals, Value.category]; done) | rfl
def Q_String_new_7 (Z : State) (b674 : Addr) (b677 : Addr) (cs : Int32) (k677 : ClassId) (v687 : Int32) (v688 : Int32) (h0 : Heap) (n0 : Nat) (v : Option Value) (h : Heap) (L : List Loc) : Prop := ∃ (b692_714 : Addr) (k692_714 : ClassId), v = none ∧ Fr n0 L ∧ Keep h0 h [b674] ∧ Fld Z h b674 xs25 "coder" "B" (.int (0 : Int32)) ∧ Fld Z h b674 xs25 "value" "[B" (.ref b692_714) ∧ h0.size ≤ b692_714 ∧ Arv Z h b692_714 k692_714 .byte (2 : Int32) [(.int (nar .byte (v687.toInt8.toInt32))), (.int (nar .byte (v688.toInt8.toInt32)))] (.int (0 : Int32))
set_option maxRecDepth 65536 in
set_option maxHeartbeats 40000000 in
theorem rm_String_new_7 (l : Launch) (Z : State) (a0 : Array Value) (hw : ∀ d ∈ tables_1, d.before a0 Z = true) (ws : List Jvm.Cond) (b674 : Addr) (b677 : Addr) (cs : Int32) (k677 : ClassId) (v687 : Int32) (v688 : Int32) (h0 : Heap) (n0 : Nat) (Z0 : n0 ≤ h0.size) (Z_S_COMPACT_STRINGS : Sta Z Z.heap xs25 xs28 "Z" (.int cs)) (O0 : Old Z n0 h0) (hcs : ¬ cs = (0 : Int32)) (V_b677 : Arv Z h0 b677 k677 .char (2 : Int32) [(.int v687), (.int v688)] (.int (0 : Int32))) (hc2 : ¬ (255 : Int32) < v687) (hc3 : ¬ (255 : Int32) < v688) (E_b674 : Exa Z h0 b674 xs25) (F_coder_b674 : Fld Z h0 b674 xs25 "coder" "B" (.int (0 : Int32))) (g_b674 : n0 ≤ b674) (F_value_b674 : Fld Z h0 b674 xs25 "value" "[B" .null) :
    MetFree l xm23 (head1 (Jvm.Cond.code xm23 jdk_42_method_149_code 6 none :: ws) xr28) (fun a U => a = #[(.ref b674), (.ref b677), (.int (0 : Int32)), (.int (2 : Int32)), .null] ∧ Z.Warmed39 U.vm ∧ U.heap = h0 ∧ CHv Z consts_1 U.vm h0) (fun _ _ _ _ _ => True) (fun _ U o U' => ∃ v L, o = .returned v ∧ Q_String_new_7 Z b674 b677 cs k677 v687 v688 h0 n0 v U'.heap L ∧ CHr Z consts_1 U.vm U.heap U'.vm U'.heap ∧ ReturnedEndW U o U' L xr28.cells xr28.slots) := by
  refine MetFree.of_bodySF (plainFor_of_name pn_1) hisR ?_
  intro p e s m args below meth c s₁ Bd hml0 hP hK
  obtain ⟨rfl, hZ, hh, hCH⟩ := hP
  have hx := Bd.exec
  have hby := Bd.bytes
  have hlk : meth.locks = false := BodyLoose.notSynchronized Bd
  have hml : c.maxLocals = 6 := hml0
  have hown : s.vm.findClass xs25 = some m.cls := findClass_of_methodNamed Bd.named
  have hnm := (name_of_methodNamed Bd.named Bd.method).1
  have X0 : Stand p l e xr28 (s.setVm s.vm) m #[(.ref b674), (.ref b677), (.int (0 : Int32)), (.int (2 : Int32)), .null] below meth c s₁ [] 0 0 := Stand.of_body Bd
  have e0 : s₁.heap = h0 := by rw [← hh, Bd.state]; rfl
  have N0 := Fr.nil n0
  have hS0 : s.Since s.vm h0.size := (State.WarmedH.refl s).since _
  have CH0 : CHr Z consts_1 s.vm s.heap s.vm h0 := by rw [hh]; exact CHr.refl hCH
  have hZ_0 := hZ
  show GoH p e below s (((Q_String_new_7 Z b674 b677 cs k677 v687 v688 h0 n0, fun vm h => CHr Z consts_1 s.vm s.heap vm h) : (Option Value → Heap → List Loc → Prop) × (Vm → Heap → Prop))) xr28.cells xr28.slots s₁ (entryFrame m #[(.ref b674), (.ref b677), (.int (0 : Int32)), (.int (2 : Int32)), .null] 6)
  refine GoH.cast (ef_String_new_7 m b674 b677 (0 : Int32) (2 : Int32)) ?_
  show GoH p e below s _ _ _ s₁ (mkF m 0 #[.val (.ref b674), .val (.ref b677), .val (.int (0 : Int32)), .val (.int (2 : Int32)), .val .null, .unset] [])
  refine GoH.step (fun _ k => XS.aloadN X0.here hx rfl (hb hby d4_0) rfl rfl k) ?_
  show GoH p e below s _ _ _ s₁ (mkF m 1 #[.val (.ref b674), .val (.ref b677), .val (.int (0 : Int32)), .val (.int (2 : Int32)), .val .null, .unset] [(.ref b674)])
  obtain ⟨T690, X690, e690, st690⟩ := initO X0 hx hZ hown (tw15 hw) (tw16 hw) (tw17 hw) e0 (g := (mkF m 1 #[.val (.ref b674), .val (.ref b677), .val (.int (0 : Int32)), .val (.int (2 : Int32)), .val .null, .unset] [(.ref b674)])) rfl (by rw [hml]; rfl) rfl (hb hby d4_1) (by decide) (W := 0) (by show 2 * 0 + _ ≤ _; exact Nat.le_of_eq rfl) (by decide)
  refine GoH.step (fun _ k => st690 _ (XS.iloadN X690.here hx rfl (hb hby d4_4) rfl (XS.ifYes X690.here hx rfl (pc0 := 5) (pc' := 27) rfl (hb hby d4_5) rfl ((if0 _ _).trans (feq (by decide)).2) (by decide) (by decide) k))) ?_
  show GoH p e below s _ _ _ T690 (mkF m 27 #[.val (.ref b674), .val (.ref b677), .val (.int (0 : Int32)), .val (.int (2 : Int32)), .val .null, .unset] [])
  obtain ⟨T691, X691, e691, st691⟩ := getS2 X690 hx hZ hown (host := "") (Or.inl (tw85 hw)) Via.refl e690 (Z_S_COMPACT_STRINGS.ext O0.2) (g := (mkF m 27 #[.val (.ref b674), .val (.ref b677), .val (.int (0 : Int32)), .val (.int (2 : Int32)), .val .null, .unset] [])) rfl (hb hby d4_27)
  refine GoH.step (fun _ k => st691 _ (XS.ifNo X691.here hx rfl (hb hby d4_30) rfl ((if0 _ _).trans (feq hcs).1) (XS.aloadN X691.here hx rfl (hb hby d4_33) rfl rfl (XS.iloadN X691.here hx rfl (hb hby d4_34) rfl (XS.iloadN X691.here hx rfl (hb hby d4_35) rfl k))))) ?_
  show GoH p e below s _ _ _ T691 (mkF m 36 #[.val (.ref b674), .val (.ref b677), .val (.int (0 : Int32)), .val (.int (2 : Int32)), .val .null, .unset] [(.int (2 : Int32)), (.int (0 : Int32)), (.ref b677)])
  obtain ⟨_, _, ⟨T714, L714, k714, n714⟩, -, X714, ⟨Lc714, hQ714, l714, y714, z714⟩, st714⟩ := Jvm.LawKit.callS X691 hx (y := xm3) hown (mvT hZ (tw185 hw)) (mvT hZ (tw186 hw)) (mvT hZ (tw187 hw)) (mvT hZ (tw188 hw)) (by decide) (backOf (W := 0) (rm_StringUTF16_compress_2 l Z a0 hw [] b677 k677 v687 v688 h0 n0 Z0 V_b677 hc2 hc3) hZ (tw188 hw) (tw187 hw) (by decide) (by decide)) (g := (mkF m 36 #[.val (.ref b674), .val (.ref b677), .val (.int (0 : Int32)), .val (.int (2 : Int32)), .val .null, .unset] [(.int (2 : Int32)), (.int (0 : Int32)), (.ref b677)])) rfl (by rw [hml]; rfl) (argsL := [(.ref b677), (.int (0 : Int32)), (.int (2 : Int32))]) (rest := []) (lenOf pd_26 rfl) rfl (by show 2 * 0 + _ ≤ _; exact Nat.le_of_eq rfl) (hb hby d4_36) (fun _ _ => ⟨rfl, e691, (by decide : 0 + 1 ≤ _), (by decide : 0 + 2 ≤ _)⟩)
  dsimp only [Pt.U, Pt.locs, Pt.cells, Pt.slots] at X714 l714 y714 z714 st714 hQ714
  subst l714 y714 z714
  obtain ⟨b692_714, k692_714, rfl, N714q, K714, P714_0, P714_1⟩ := hQ714
  have N715 := Fr.app N0 N714q
  refine GoH.step (fun _ k => st714 _ (XS.astore X714.here hx rfl (hb hby d4_39) rfl rfl (l' := #[.val (.ref b674), .val (.ref b677), .val (.int (0 : Int32)), .val (.int (2 : Int32)), .val .null, .val (.ref b692_714)]) rfl (XS.aloadN X714.here hx rfl (hb hby d4_41) rfl rfl (XS.aload X714.here hx rfl (hb hby d4_42) rfl rfl (XS.iloadN X714.here hx rfl (hb hby d4_44) rfl k))))) ?_
  show GoH p e below s _ _ _ T714 (mkF m 45 #[.val (.ref b674), .val (.ref b677), .val (.int (0 : Int32)), .val (.int (2 : Int32)), .val .null, .val (.ref b692_714)] [(.int (2 : Int32)), (.ref b692_714), (.ref b674)])
  have f719 := (Nat.le_trans Z0 K714.1)
  obtain ⟨_, _, ⟨T720, L720, k720, n720⟩, -, X720, ⟨Lc720, hQ720, l720, y720, z720⟩, st720⟩ := Jvm.LawKit.callS X714 hx (y := xm27) hown (mvT hZ (tw192 hw)) (mvT hZ (tw193 hw)) (mvT hZ (tw187 hw)) (mvT hZ (tw194 hw)) (by decide) (backOf (W := 1) (rm_StringUTF16_coderFromArrayLen_1 l Z a0 hw [] b692_714 k692_714 (nar .byte (v687.toInt8.toInt32)) (nar .byte (v688.toInt8.toInt32)) T714.heap n0 f719 P714_1) hZ (tw194 hw) (tw187 hw) (by decide) (by decide)) (g := (mkF m 45 #[.val (.ref b674), .val (.ref b677), .val (.int (0 : Int32)), .val (.int (2 : Int32)), .val .null, .val (.ref b692_714)] [(.int (2 : Int32)), (.ref b692_714), (.ref b674)])) rfl (by rw [hml]; rfl) (argsL := [(.ref b692_714), (.int (2 : Int32))]) (rest := [(.ref b674)]) (lenOf pd_27 rfl) rfl (by show 2 * 0 + _ ≤ _; exact Nat.le_of_eq rfl) (hb hby d4_45) (fun _ _ => ⟨rfl, rfl, (by decide : 1 + 0 ≤ _), (by decide : 2 + 0 ≤ _)⟩)
  dsimp only [Pt.U, Pt.locs, Pt.cells, Pt.slots] at X720 l720 y720 z720 st720 hQ720
  subst l720 y720 z720
  obtain ⟨rfl, N720q, eq720⟩ := hQ720
  have N721 := Fr.app N715 N720q
  refine GoH.step (fun _ k => st720 _ k) ?_
  show GoH p e below s _ _ _ T720 (mkF m 48 #[.val (.ref b674), .val (.ref b677), .val (.int (0 : Int32)), .val (.int (2 : Int32)), .val .null, .val (.ref b692_714)] [(.int (0 : Int32)), (.ref b674)])
  have f722 := (F_coder_b674.keep K714 nin0)
  have f723 := (E_b674.keep K714)
  obtain ⟨T724, h724, X724, e724, W724, st724⟩ := putFN X720 hx hZ hown (tw25 hw) Via.refl eq720 f722 f723 (Or.inr ⟨(tw21 hw), rfl, hnm⟩) (tw5 hw) (ty := .byte) (v' := (.int (0 : Int32))) (by decide) rfl rfl (g := (mkF m 48 #[.val (.ref b674), .val (.ref b677), .val (.int (0 : Int32)), .val (.int (2 : Int32)), .val .null, .val (.ref b692_714)] [(.int (0 : Int32)), (.ref b674)])) rfl rfl (hb hby d4_48)
  have f726 := f722.same W724
  have N727 := Fr.snoc X724 N721 g_b674
  refine GoH.step (fun _ k => st724 _ (XS.aloadN X724.here hx rfl (hb hby d4_51) rfl rfl (XS.aload X724.here hx rfl (hb hby d4_52) rfl rfl k))) ?_
  show GoH p e below s _ _ _ T724 (mkF m 54 #[.val (.ref b674), .val (.ref b677), .val (.int (0 : Int32)), .val (.int (2 : Int32)), .val .null, .val (.ref b692_714)] [(.ref b692_714), (.ref b674)])
  have f728 := ((F_value_b674.keep K714 nin0).other W724 (Or.inr (slot_ne (Or.inr (tw20 hw)) (Or.inr (tw21 hw)) (by decide) (t := (.array .byte)) (t' := .byte) (by decide) (by decide))))
  have f729 := (f723.wr W724)
  obtain ⟨T730, h730, X730, e730, W730, st730⟩ := putF X724 hx hZ hown (host := "") (Or.inl (tw24 hw)) Via.refl e724 f728 f729 (Or.inr ⟨(tw20 hw), rfl, hnm⟩) (tw5 hw) (ty := (.array .byte)) (by decide) rfl rfl (g := (mkF m 54 #[.val (.ref b674), .val (.ref b677), .val (.int (0 : Int32)), .val (.int (2 : Int32)), .val .null, .val (.ref b692_714)] [(.ref b692_714), (.ref b674)])) rfl rfl (hb hby d4_54)
  have f731 := f728.same W730
  have N732 := Fr.snoc X730 N727 g_b674
  refine GoH.step (fun _ k => st730 _ k) ?_
  show GoH p e below s _ _ _ T730 (mkF m 57 #[.val (.ref b674), .val (.ref b677), .val (.int (0 : Int32)), .val (.int (2 : Int32)), .val .null, .val (.ref b692_714)] [])
  have f733 := ((((Keep.refl h0 [b674]).trans K714 all0).wr W724 (Or.inl (List.mem_of_getElem? (i := 0) rfl))).wr W730 (Or.inl (List.mem_of_getElem? (i := 0) rfl)))
  have f734 := (f726.other W730 (Or.inr (slot_ne (Or.inr (tw21 hw)) (Or.inr (tw20 hw)) (by decide) (t := .byte) (t' := (.array .byte)) (by decide) (by decide))))
  have z735 := Nat.le_trans (Nat.le_refl _) P714_0
  have ne736 : b674 ≠ b692_714 := Nat.ne_of_lt (Nat.lt_of_lt_of_le E_b674.lt P714_0)
  have f737 := ((P714_1.other W724 (Ne.symm ne736)).other W730 (Ne.symm ne736))
  have f738 := (Nat.le_trans (Nat.le_trans (Nat.le_trans (Nat.le_refl _) K714.1) (Keep.of_wr W724).1) (Keep.of_wr W730).1)
  have f739 := (F_value_b674.keep K714 nin0)
  have sf740 := own_safeN (EL := consts_1) hZ_0.alike f739 f723
  have f741 := (own_chK CH0 K714 sf0)
  have f742 := (Safe.wr W724 sf740 f741.1 sf740)
  have f743 := (own_chW (own_chW (own_chK CH0 K714 sf0) W724 sf740) W730 f742)
  exact GoH.retV X730 hS0 hx hlk Bd.returns (hb hby d4_57) e730 f738 ⟨b692_714, k692_714, rfl, N732, f733, f734, f731, z735, f737⟩ (f743.trans (CHv.at X730 hZ_0 (own_EW hw) f743.1)) (by decide) (by decide)

theorem ef_String_new_6 (m : MethodId) (x0 : Addr) (x1 : Addr) : entryFrame m #[(.ref x0), (.ref x1)] 2 = mkF m 0 #[.val (.ref x0), .val (.ref x1)] [] := by first | (simp [entryFrame, mkF, argsToLocals, Value.category]; done) | rfl
def Q_String_new_6 (Z : State) (b674 : Addr) (b677 : Addr) (k677 : ClassId) (v687 : Int32) (v688 : Int32) (cs : Int32) (h0 : Heap) (n0 : Nat) (v : Option Value) (h : Heap) (L : List Loc) : Prop := ∃ (b692_714_744 : Addr) (k692_714_744 : ClassId), v = none ∧ Fr n0 L ∧ Keep h0 h [b674] ∧ Fld Z h b674 xs25 "coder" "B" (.int (0 : Int32)) ∧ Fld Z h b674 xs25 "value" "[B" (.ref b692_714_744) ∧ h0.size ≤ b692_714_744 ∧ Arv Z h b692_714_744 k692_714_744 .byte (2 : Int32) [(.int (nar .byte (v687.toInt8.toInt32))), (.int (nar .byte (v688.toInt8.toInt32)))] (.int (0 : Int32))
set_option maxRecDepth 65536 in
set_option maxHeartbeats 40000000 in
theorem rm_String_new_6 (l : Launch) (Z : State) (a0 : Array Value) (hw : ∀ d ∈ tables_1, d.before a0 Z = true) (ws : List Jvm.Cond) (b674 : Addr) (b677 : Addr) (k677 : ClassId) (v687 : Int32) (v688 : Int32) (cs : Int32) (h0 : Heap) (n0 : Nat) (Z0 : n0 ≤ h0.size) (V_b677 : Arv Z h0 b677 k677 .char (2 : Int32) [(.int v687), (.int v688)] (.int (0 : Int32))) (Z_S_COMPACT_STRINGS : Sta Z Z.heap xs25 xs28 "Z" (.int cs)) (O0 : Old Z n0 h0) (hcs : ¬ cs = (0 : Int32)) (hc2 : ¬ (255 : Int32) < v687) (hc3 : ¬ (255 : Int32) < v688) (E_b674 : Exa Z h0 b674 xs25) (F_coder_b674 : Fld Z h0 b674 xs25 "coder" "B" (.int (0 : Int32))) (g_b674 : n0 ≤ b674) (F_value_b674 : Fld Z h0 b674 xs25 "value" "[B" .null) :
    MetFree l xm9 (head1 (Jvm.Cond.code xm9 jdk_42_method_3_code 2 none :: ws) xr29) (fun a U => a = #[(.ref b674), (.ref b677)] ∧ Z.Warmed39 U.vm ∧ U.heap = h0 ∧ CHv Z consts_1 U.vm h0) (fun _ _ _ _ _ => True) (fun _ U o U' => ∃ v L, o = .returned v ∧ Q_String_new_6 Z b674 b677 k677 v687 v688 cs h0 n0 v U'.heap L ∧ CHr Z consts_1 U.vm U.heap U'.vm U'.heap ∧ ReturnedEndW U o U' L xr29.cells xr29.slots) := by
  refine MetFree.of_bodySF (plainFor_of_name pn_1) hisR ?_
  intro p e s m args below meth c s₁ Bd hml0 hP hK
  obtain ⟨rfl, hZ, hh, hCH⟩ := hP
  have hx := Bd.exec
  have hby := Bd.bytes
  have hlk : meth.locks = false := BodyLoose.notSynchronized Bd
  have hml : c.maxLocals = 2 := hml0
  have hown : s.vm.findClass xs25 = some m.cls := findClass_of_methodNamed Bd.named
  have hnm := (name_of_methodNamed Bd.named Bd.method).1
  have X0 : Stand p l e xr29 (s.setVm s.vm) m #[(.ref b674), (.ref b677)] below meth c s₁ [] 0 0 := Stand.of_body Bd
  have e0 : s₁.heap = h0 := by rw [← hh, Bd.state]; rfl
  have N0 := Fr.nil n0
  have hS0 : s.Since s.vm h0.size := (State.WarmedH.refl s).since _
  have CH0 : CHr Z consts_1 s.vm s.heap s.vm h0 := by rw [hh]; exact CHr.refl hCH
  have hZ_0 := hZ
  show GoH p e below s (((Q_String_new_6 Z b674 b677 k677 v687 v688 cs h0 n0, fun vm h => CHr Z consts_1 s.vm s.heap vm h) : (Option Value → Heap → List Loc → Prop) × (Vm → Heap → Prop))) xr29.cells xr29.slots s₁ (entryFrame m #[(.ref b674), (.ref b677)] 2)
  refine GoH.cast (ef_String_new_6 m b674 b677) ?_
  show GoH p e below s _ _ _ s₁ (mkF m 0 #[.val (.ref b674), .val (.ref b677)] [])
  refine GoH.step (fun _ k => XS.aloadN X0.here hx rfl (hb hby d3_0) rfl rfl (XS.aloadN X0.here hx rfl (hb hby d3_1) rfl rfl (XS.iconst X0.here hx rfl (hb hby d3_2) (XS.aloadN X0.here hx rfl (hb hby d3_3) rfl rfl k)))) ?_
  show GoH p e below s _ _ _ s₁ (mkF m 4 #[.val (.ref b674), .val (.ref b677)] [(.ref b677), (.int (0 : Int32)), (.ref b677), (.ref b674)])
  obtain ⟨cl689, Ar689, -, Sz689, Ng689, -, -⟩ := id V_b677
  have aln689 := X0.arraylength hx (by rw [e0]; exact Ar689.1) (State.isArrayOf_alike hZ.alike Ar689.2.1) (g := (mkF m 4 #[.val (.ref b674), .val (.ref b677)] [(.ref b677), (.int (0 : Int32)), (.ref b677), (.ref b674)])) rfl rfl (hb hby d3_4)
  rw [len_of Sz689 Ng689] at aln689
  refine GoH.step (fun _ k => aln689 _ (XS.aconstNull X0.here hx rfl (hb hby d3_5) k)) ?_
  show GoH p e below s _ _ _ s₁ (mkF m 6 #[.val (.ref b674), .val (.ref b677)] [.null, (.int (2 : Int32)), (.int (0 : Int32)), (.ref b677), (.ref b674)])
  obtain ⟨_, _, ⟨T744, L744, k744, n744⟩, -, X744s, hs744, hg744, ⟨Lc744, hQ744, l744, y744, z744, ch744⟩, st744⟩ := X0.specialBackS hx (y := xm23) rfl hown (mvT hZ (tw11 hw)) (mvT hZ (tw12 hw)) (mvT hZ (tw14 hw)) (by decide) (backOfSH (W := 0) (rm_String_new_7 l Z a0 hw [] b674 b677 cs k677 v687 v688 h0 n0 Z0 Z_S_COMPACT_STRINGS O0 hcs V_b677 hc2 hc3 E_b674 F_coder_b674 g_b674 F_value_b674) hZ (tw14 hw) (tw6 hw) (by decide) (by decide) (own_EW hw) CH0.1) (g := (mkF m 6 #[.val (.ref b674), .val (.ref b677)] [.null, (.int (2 : Int32)), (.int (0 : Int32)), (.ref b677), (.ref b674)])) rfl (by rw [hml]; rfl) (Steps.refl _) (a := b674) (argsL := [(.ref b677), (.int (0 : Int32)), (.int (2 : Int32)), .null]) (rest := []) (lenOf pd_1 rfl) rfl (by show 2 * 0 + _ ≤ _; exact Nat.le_of_eq rfl) (hb hby d3_6) (fun _ _ => ⟨rfl, e0, (by decide : 0 + 1 ≤ _), (by decide : 0 + 2 ≤ _)⟩)
  dsimp only [Pt.U, Pt.locs, Pt.cells, Pt.slots] at X744s hs744 hg744 l744 y744 z744 st744 hQ744 ch744
  subst l744 y744 z744
  obtain ⟨X744, hS744, hZ744, hown744⟩ := rebS hS0 (by rw [e0]; exact (Nat.le_refl _)) X744s hs744 hg744 hZ hown
  obtain ⟨b692_714_744, k692_714_744, rfl, N744q, K744, P744_0, P744_1, P744_2, P744_3⟩ := hQ744
  have N745 := Fr.app N0 N744q
  have f746 := CH0.trans ch744
  refine GoH.step (fun _ k => st744.trans k) ?_
  show GoH p e below s _ _ _ T744 (mkF m 9 #[.val (.ref b674), .val (.ref b677)] [])
  have f747 := ((Keep.refl h0 [b674]).trans K744 (allS (Or.inl (List.mem_of_getElem? (i := 0) rfl)) all0))
  have z748 := Nat.le_trans (Nat.le_refl _) P744_2
  exact GoH.retV X744 hS744 hx hlk Bd.returns (hb hby d3_9) rfl (Nat.le_refl _) ⟨b692_714_744, k692_714_744, rfl, N745, f747, P744_0, P744_1, z748, P744_3⟩ (f746.trans (CHv.at X744 hZ744 (own_EW hw) f746.1)) (by decide) (by decide)

theorem ef_SubjectSetTypeToStringPinLaw_mk_2 (m : MethodId) (x0 : Int32) (x1 : Int32) (x2 : Int32) : entryFrame m #[(.int x0), (.int x1), (.int x2)] 3 = mkF m 0 #[.val (.int x0), .val (.int x1), .val (.int x2)] [] := by first | (simp [entryFrame, mkF, argsToLocals, Value.category]; done) | rfl
def Q_SubjectSetTypeToStringPinLaw_mk_2 (Z : State) (c2 : Int32) (c3 : Int32) (cs : Int32) (h0 : Heap) (n0 : Nat) (v : Option Value) (h : Heap) (L : List Loc) : Prop := ∃ (b674 : Addr) (b692_714_744_755 : Addr) (k692_714_744_755 : ClassId), v = some (.ref b674) ∧ Fr n0 L ∧ Keep h0 h [] ∧ h0.size ≤ b674 ∧ Exa Z h b674 xs25 ∧ Fld Z h b674 xs25 "value" "[B" (.ref b692_714_744_755) ∧ Fld Z h b674 xs25 "coder" "B" (.int (0 : Int32)) ∧ h0.size ≤ b692_714_744_755 ∧ Arv Z h b692_714_744_755 k692_714_744_755 .byte (2 : Int32) [(.int (nar .byte ((nar .char c2).toInt8.toInt32))), (.int (nar .byte ((nar .char c3).toInt8.toInt32)))] (.int (0 : Int32)) ∧ b674 ≠ b692_714_744_755
set_option maxRecDepth 65536 in
set_option maxHeartbeats 40000000 in
theorem rm_SubjectSetTypeToStringPinLaw_mk_2 (l : Launch) (Z : State) (a0 : Array Value) (hw : ∀ d ∈ tables_1, d.before a0 Z = true) (ws : List Jvm.Cond) (c2 : Int32) (c3 : Int32) (cs : Int32) (h0 : Heap) (n0 : Nat) (Z0 : n0 ≤ h0.size) (Z_S_COMPACT_STRINGS : Sta Z Z.heap xs25 xs28 "Z" (.int cs)) (O0 : Old Z n0 h0) (hcs : ¬ cs = (0 : Int32)) (hc2 : ¬ (255 : Int32) < (nar .char c2)) (hc3 : ¬ (255 : Int32) < (nar .char c3)) :
    MetFree l xm34 (head1 (Jvm.Cond.code xm34 method_3_code 3 (some (.object xs25)) :: ws) xr30) (fun a U => a = #[(.int (2 : Int32)), (.int c2), (.int c3)] ∧ Z.Warmed39 U.vm ∧ U.heap = h0 ∧ CHv Z consts_1 U.vm h0) (fun _ _ _ _ _ => True) (fun _ U o U' => ∃ v L, o = .returned v ∧ Q_SubjectSetTypeToStringPinLaw_mk_2 Z c2 c3 cs h0 n0 v U'.heap L ∧ CHr Z consts_1 U.vm U.heap U'.vm U'.heap ∧ ReturnedEndW U o U' L xr30.cells xr30.slots) := by
  refine MetFree.of_bodySF (plainFor_of_name pn_2) hisR ?_
  intro p e s m args below meth c s₁ Bd hml0 hP hK
  obtain ⟨rfl, hZ, hh, hCH⟩ := hP
  have hx := Bd.exec
  have hby := Bd.bytes
  have hlk : meth.locks = false := BodyLoose.notSynchronized Bd
  have hml : c.maxLocals = 3 := hml0
  have hown : s.vm.findClass xs0 = some m.cls := findClass_of_methodNamed Bd.named
  have hnm := (name_of_methodNamed Bd.named Bd.method).1
  have X0 : Stand p l e xr30 (s.setVm s.vm) m #[(.int (2 : Int32)), (.int c2), (.int c3)] below meth c s₁ [] 0 0 := Stand.of_body Bd
  have e0 : s₁.heap = h0 := by rw [← hh, Bd.state]; rfl
  have N0 := Fr.nil n0
  have hS0 : s.Since s.vm h0.size := (State.WarmedH.refl s).since _
  have CH0 : CHr Z consts_1 s.vm s.heap s.vm h0 := by rw [hh]; exact CHr.refl hCH
  have hZ_0 := hZ
  show GoH p e below s (((Q_SubjectSetTypeToStringPinLaw_mk_2 Z c2 c3 cs h0 n0, fun vm h => CHr Z consts_1 s.vm s.heap vm h) : (Option Value → Heap → List Loc → Prop) × (Vm → Heap → Prop))) xr30.cells xr30.slots s₁ (entryFrame m #[(.int (2 : Int32)), (.int c2), (.int c3)] 3)
  refine GoH.cast (ef_SubjectSetTypeToStringPinLaw_mk_2 m (2 : Int32) c2 c3) ?_
  show GoH p e below s _ _ _ s₁ (mkF m 0 #[.val (.int (2 : Int32)), .val (.int c2), .val (.int c3)] [])
  refine GoH.step (fun _ k => XS.iloadN X0.here hx rfl (hb hby d2_0) rfl (XS.ifYes X0.here hx rfl (pc0 := 1) (pc' := 15) rfl (hb hby d2_1) rfl ((if0 _ _).trans (feq (by decide)).2) (by decide) (by decide) (XS.iloadN X0.here hx rfl (hb hby d2_15) rfl (XS.iconst X0.here hx rfl (hb hby d2_16) (XS.icmpYes X0.here hx rfl (pc0 := 17) (pc' := 35) rfl (hb hby d2_17) rfl (feq (by decide)).2 (by decide) (by decide) k))))) ?_
  show GoH p e below s _ _ _ s₁ (mkF m 35 #[.val (.int (2 : Int32)), .val (.int c2), .val (.int c3)] [])
  obtain ⟨T674, h674, X674, e674, E674, A674, D674, -, st674⟩ := newO X0 hx hZ hown (tw4 hw) (tw5 hw) (tw6 hw) e0 (g := (mkF m 35 #[.val (.int (2 : Int32)), .val (.int c2), .val (.int c3)] [])) rfl (hb hby d2_35) (by decide) (by decide)
  obtain ⟨b674, g674⟩ : ∃ z, z = h0.size := ⟨_, rfl⟩
  rw [← g674] at A674 D674 st674
  have f675 : Fld Z h674 b674 xs25 "value" "[B" .null := D674 (Or.inr (tw20 hw)) (ty := (.array .byte)) (by decide)
  have f676 : Fld Z h674 b674 xs25 "coder" "B" (.int (0 : Int32)) := D674 (Or.inr (tw21 hw)) (ty := .byte) (by decide)
  refine GoH.step (fun _ k => st674 _ (XS.dup X674.here hx rfl (hb hby d2_38) rfl rfl (XS.iconst X674.here hx rfl (hb hby d2_39) k))) ?_
  show GoH p e below s _ _ _ T674 (mkF m 40 #[.val (.int (2 : Int32)), .val (.int c2), .val (.int c3)] [(.int (2 : Int32)), (.ref b674), (.ref b674)])
  obtain ⟨T677, h677, k677, X677, e677, E677, A677, st677⟩ := newP (aty := .char) X674 hx hZ (tw7 hw) e674 (g := (mkF m 40 #[.val (.int (2 : Int32)), .val (.int c2), .val (.int c3)] [(.int (2 : Int32)), (.ref b674), (.ref b674)])) rfl (hb hby d2_40) rfl (by decide) (cap := 2) (by decide) (by decide) (by decide) (by decide)
  obtain ⟨b677, g677⟩ : ∃ z, z = h674.size := ⟨_, rfl⟩
  rw [← g677] at A677 st677
  have f678 : Arv Z h677 b677 k677 .char (2 : Int32) [(.int (0 : Int32)), (.int (0 : Int32))] (.int (0 : Int32)) := (Arv.new A677 (by decide)).pad (pad_rep [] (.int (0 : Int32)) 2)
  refine GoH.step (fun _ k => st677 _ (XS.dup X677.here hx rfl (hb hby d2_42) rfl rfl (XS.iconst X677.here hx rfl (hb hby d2_43) (XS.iloadN X677.here hx rfl (hb hby d2_44) rfl k)))) ?_
  show GoH p e below s _ _ _ T677 (mkF m 45 #[.val (.int (2 : Int32)), .val (.int c2), .val (.int c3)] [(.int c2), (.int (0 : Int32)), (.ref b677), (.ref b677), (.ref b674), (.ref b674)])
  obtain ⟨cl679, Ar679, qq679, Sz679, Ng679, Hs679, Ft679⟩ := id f678
  have in679 : ¬ ((0 : Int32) < 0 ∨ cl679.slots.size ≤ ((0 : Int32)).toNatClampNeg) := (inb_of Sz679 ⟨by decide, by decide⟩)
  obtain ⟨T679, h679, X679, e679, W679, st679⟩ := stC X677 hx hZ e677 Ar679 (j := (0 : Int32)) in679 (g := (mkF m 45 #[.val (.int (2 : Int32)), .val (.int c2), .val (.int c3)] [(.int c2), (.int (0 : Int32)), (.ref b677), (.ref b677), (.ref b674), (.ref b674)])) rfl rfl (hb hby d2_45)
  have f680 := (Nat.le_trans Z0 E674.1)
  have g681 := Nat.le_trans f680 (Nat.le_of_eq g677.symm)
  have f682 : Arv Z h679 b677 k677 .char (2 : Int32) [(.int (nar .char c2)), (.int (0 : Int32))] (.int (0 : Int32)) := Arv.set Ar679 qq679 Sz679 Ng679 Hs679 Ft679 (fits_nar_char _) W679 0 rfl (Nat.le_of_ble_eq_true rfl)
  have N683 := Fr.snoc X679 N0 g681
  refine GoH.step (fun _ k => st679 _ (XS.dup X679.here hx rfl (hb hby d2_46) rfl rfl (XS.iconst X679.here hx rfl (hb hby d2_47) (XS.iloadN X679.here hx rfl (hb hby d2_48) rfl k)))) ?_
  show GoH p e below s _ _ _ T679 (mkF m 49 #[.val (.int (2 : Int32)), .val (.int c2), .val (.int c3)] [(.int c3), (.int (1 : Int32)), (.ref b677), (.ref b677), (.ref b674), (.ref b674)])
  obtain ⟨cl684, Ar684, qq684, Sz684, Ng684, Hs684, Ft684⟩ := id f682
  have in684 : ¬ ((1 : Int32) < 0 ∨ cl684.slots.size ≤ ((1 : Int32)).toNatClampNeg) := (inb_of Sz684 ⟨by decide, by decide⟩)
  obtain ⟨T684, h684, X684, e684, W684, st684⟩ := stC X679 hx hZ e679 Ar684 (j := (1 : Int32)) in684 (g := (mkF m 49 #[.val (.int (2 : Int32)), .val (.int c2), .val (.int c3)] [(.int c3), (.int (1 : Int32)), (.ref b677), (.ref b677), (.ref b674), (.ref b674)])) rfl rfl (hb hby d2_49)
  have f685 : Arv Z h684 b677 k677 .char (2 : Int32) [(.int (nar .char c2)), (.int (nar .char c3))] (.int (0 : Int32)) := Arv.set Ar684 qq684 Sz684 Ng684 Hs684 Ft684 (fits_nar_char _) W684 1 rfl (Nat.le_of_ble_eq_true rfl)
  have N686 := Fr.snoc X684 N683 g681
  refine GoH.step (fun _ k => st684 _ k) ?_
  show GoH p e below s _ _ _ T684 (mkF m 50 #[.val (.int (2 : Int32)), .val (.int c2), .val (.int c3)] [(.ref b677), (.ref b674), (.ref b674)])
  have g725 := Nat.le_trans Z0 (Nat.le_of_eq g674.symm)
  have f749 := ((((O0.ext E674).ext E677).wr W679 g681).wr W684 g681)
  have f750 := (Nat.le_trans (Nat.le_trans (Nat.le_trans f680 E677.1) (Keep.of_wr W679).1) (Keep.of_wr W684).1)
  have f751 := (((A674.ext E677).wr W679).wr W684)
  have ne752 : b674 ≠ b677 := Nat.ne_of_lt (Nat.lt_of_lt_of_le A674.lt (Nat.le_of_eq g677.symm))
  have f753 := (((f676.ext E677).other W679 (Or.inl ne752)).other W684 (Or.inl ne752))
  have f754 := (((f675.ext E677).other W679 (Or.inl ne752)).other W684 (Or.inl ne752))
  have f756 := (own_chW (own_chW (own_chE (own_chE CH0 E674) E677) W679 (Safe.arv hZ_0.alike f678 (by simp))) W684 (Safe.arv hZ_0.alike f682 (by simp)))
  obtain ⟨_, _, ⟨T755, L755, k755, n755⟩, -, X755s, hs755, hg755, ⟨Lc755, hQ755, l755, y755, z755, ch755⟩, st755⟩ := X684.specialBackS hx (y := xm9) rfl hown (mvT hZ (tw8 hw)) (mvT hZ (tw9 hw)) (mvT hZ (tw10 hw)) (by decide) (backOfSH (W := 1) (rm_String_new_6 l Z a0 hw [] b674 b677 k677 (nar .char c2) (nar .char c3) cs h684 n0 f750 f685 Z_S_COMPACT_STRINGS f749 hcs hc2 hc3 f751 f753 g725 f754) hZ (tw10 hw) (tw6 hw) (by decide) (by decide) (own_EW hw) f756.1) (g := (mkF m 50 #[.val (.int (2 : Int32)), .val (.int c2), .val (.int c3)] [(.ref b677), (.ref b674), (.ref b674)])) rfl (by rw [hml]; rfl) (Steps.refl _) (a := b674) (argsL := [(.ref b677)]) (rest := [(.ref b674)]) (lenOf pd_2 rfl) rfl (by show 2 * 0 + _ ≤ _; exact Nat.le_of_eq rfl) (hb hby d2_50) (fun _ _ => ⟨rfl, e684, (by decide : 2 + 1 ≤ _), (by decide : 6 + 2 ≤ _)⟩)
  dsimp only [Pt.U, Pt.locs, Pt.cells, Pt.slots] at X755s hs755 hg755 l755 y755 z755 st755 hQ755 ch755
  subst l755 y755 z755
  have f757 := (Nat.le_trans (Nat.le_trans (Nat.le_trans (Nat.le_trans (Nat.le_refl _) E674.1) E677.1) (Keep.of_wr W679).1) (Keep.of_wr W684).1)
  obtain ⟨X755, hS755, hZ755, hown755⟩ := rebS hS0 (by rw [e684]; exact f757) X755s hs755 hg755 hZ hown
  obtain ⟨b692_714_744_755, k692_714_744_755, rfl, N755q, K755, P755_0, P755_1, P755_2, P755_3⟩ := hQ755
  have N758 := Fr.app N686 N755q
  have f759 := f756.trans ch755
  refine GoH.step (fun _ k => st755.trans k) ?_
  show GoH p e below s _ _ _ T755 (mkF m 53 #[.val (.int (2 : Int32)), .val (.int c2), .val (.int c3)] [(.ref b674)])
  have f760 := (Nat.le_trans (Nat.le_refl _) E674.1)
  have z761 := Nat.le_trans f760 (Nat.le_of_eq g677.symm)
  have z762 := Nat.le_trans (Nat.le_refl _) (Nat.le_of_eq g674.symm)
  have f763 := ((((((Keep.refl h0 []).ext E674).ext E677).wr W679 (Or.inr z761)).wr W684 (Or.inr z761)).trans K755 (allS (Or.inr z762) all0))
  have f764 := (f751.keep K755)
  have f765 := (Nat.le_trans (Nat.le_trans (Nat.le_trans f760 E677.1) (Keep.of_wr W679).1) (Keep.of_wr W684).1)
  have z766 := Nat.le_trans f765 P755_2
  have ne767 : b674 ≠ b692_714_744_755 := Nat.ne_of_lt (Nat.lt_of_lt_of_le f751.lt P755_2)
  exact GoH.retA X755 hS755 hx hlk Bd.returns rfl rfl (hb hby d2_53) rfl (Nat.le_refl _) ⟨b674, b692_714_744_755, k692_714_744_755, rfl, N758, f763, z762, f764, P755_1, P755_0, z766, P755_3, ne767⟩ (f759.trans (CHv.at X755 hZ755 (own_EW hw) f759.1)) (by decide) (by decide)

theorem ef_SubjectSetTypeToStringPinLaw_ok_3 (m : MethodId) (x0 : Addr) (x1 : Addr) (x2 : Addr) (x3 : Int32) : entryFrame m #[(.ref x0), (.ref x1), (.ref x2), (.int x3)] 5 = mkF m 0 #[.val (.ref x0), .val (.ref x1), .val (.ref x2), .val (.int x3), .unset] [] := by first | (simp [entryFrame, mkF, argsToLocals, Value.category]; done) | rfl
def Q_SubjectSetTypeToStringPinLaw_ok_3 (Z : State) (b267_404_857 : Addr) (b502_826 : Addr) (b6_830 : Addr) (n868 : Int32) (b297_325_341_364_384_404_857 : Addr) (k297_325_341_364_384_404_857 : ClassId) (n869 : Int32) (l870 : List Value) (cs : Int32) (b516_532_561_572_826 : Addr) (k516_532_561_572_826 : ClassId) (n874 : Int32) (l875 : List Value) (x879 : Int32) (fv : Value) (x885 : Int32) (h0 : Heap) (n0 : Nat) (v : Option Value) (h : Heap) (L : List Loc) : Prop := v = some (.int (1 : Int32)) ∧ Fr n0 L ∧ h = h0
set_option maxRecDepth 65536 in
set_option maxHeartbeats 40000000 in
theorem rm_SubjectSetTypeToStringPinLaw_ok_3 (l : Launch) (Z : State) (a0 : Array Value) (hw : ∀ d ∈ tables_1, d.before a0 Z = true) (ws : List Jvm.Cond) (b267_404_857 : Addr) (b502_826 : Addr) (b6_830 : Addr) (n868 : Int32) (b297_325_341_364_384_404_857 : Addr) (k297_325_341_364_384_404_857 : ClassId) (n869 : Int32) (l870 : List Value) (cs : Int32) (b516_532_561_572_826 : Addr) (k516_532_561_572_826 : ClassId) (n874 : Int32) (l875 : List Value) (x879 : Int32) (fv : Value) (x885 : Int32) (h0 : Heap) (n0 : Nat) (Z0 : n0 ≤ h0.size) (E_b267_404_857 : Exa Z h0 b267_404_857 xs25) (F_value_b267_404_857 : Fld Z h0 b267_404_857 xs25 "value" "[B" (.ref b297_325_341_364_384_404_857)) (V_b297_325_341_364_384_404_857 : Arv Z h0 b297_325_341_364_384_404_857 k297_325_341_364_384_404_857 .byte n869 l870 (.int (0 : Int32))) (F_coder_b267_404_857 : Fld Z h0 b267_404_857 xs25 "coder" "B" (.int (0 : Int32))) (Z_S_COMPACT_STRINGS : Sta Z Z.heap xs25 xs28 "Z" (.int cs)) (O0 : Old Z n0 h0) (hcs : ¬ cs = (0 : Int32)) (d_873 : n868 < (n869 >>> ((0 : Int32) &&& 31))) (E_b502_826 : Exa Z h0 b502_826 xs25) (F_value_b502_826 : Fld Z h0 b502_826 xs25 "value" "[B" (.ref b516_532_561_572_826)) (V_b516_532_561_572_826 : Arv Z h0 b516_532_561_572_826 k516_532_561_572_826 .byte n874 l875 (.int (0 : Int32))) (F_coder_b502_826 : Fld Z h0 b502_826 xs25 "coder" "B" (.int (0 : Int32))) (d_878 : n868 < (n874 >>> ((0 : Int32) &&& 31))) (pk_880 : (l875 : List Value).getD (n868).toNatClampNeg (.int (0 : Int32)) = .int x879) (Z_S_SIOOBE_FORMATTER : Sta Z Z.heap xs8 xs24 xs9 fv) (hfv : fv.isRef = true) (d_881 : ¬ n868 < (0 : Int32)) (d_882 : n868 < n874) (pk_886 : (l870 : List Value).getD (n868).toNatClampNeg (.int (0 : Int32)) = .int x885) (d_887 : n868 < n869) (d_890 : (nar .char (nar .char ((x885 &&& (255 : Int32)).toUInt32.toUInt16.toUInt32.toInt32))) = (nar .char (nar .char ((x879 &&& (255 : Int32)).toUInt32.toUInt16.toUInt32.toInt32)))) :
    MetFree l xm35 (head1 (Jvm.Cond.code xm35 method_4_code 5 (some .boolean) :: ws) xr21) (fun a U => a = #[(.ref b267_404_857), (.ref b502_826), (.ref b6_830), (.int n868)] ∧ Z.Warmed39 U.vm ∧ U.heap = h0) (fun _ _ _ _ _ => True) (fun _ U o U' => ∃ v L, o = .returned v ∧ Q_SubjectSetTypeToStringPinLaw_ok_3 Z b267_404_857 b502_826 b6_830 n868 b297_325_341_364_384_404_857 k297_325_341_364_384_404_857 n869 l870 cs b516_532_561_572_826 k516_532_561_572_826 n874 l875 x879 fv x885 h0 n0 v U'.heap L ∧ FrameEnd U o U' L xr21.cells xr21.slots) := by
  refine MetFree.of_bodySF (plainFor_of_name pn_2) hisR ?_
  intro p e s m args below meth c s₁ Bd hml0 hP hK
  obtain ⟨rfl, hZ, hh⟩ := hP
  have hx := Bd.exec
  have hby := Bd.bytes
  have hlk : meth.locks = false := BodyLoose.notSynchronized Bd
  have hml : c.maxLocals = 5 := hml0
  have hown : s.vm.findClass xs0 = some m.cls := findClass_of_methodNamed Bd.named
  have hnm := (name_of_methodNamed Bd.named Bd.method).1
  have X0 : Stand p l e xr21 s m #[(.ref b267_404_857), (.ref b502_826), (.ref b6_830), (.int n868)] below meth c s₁ [] 0 0 := Stand.of_body Bd
  have e0 : s₁.heap = h0 := by rw [← hh, Bd.state]; rfl
  have N0 := Fr.nil n0
  show Go p e below s (Q_SubjectSetTypeToStringPinLaw_ok_3 Z b267_404_857 b502_826 b6_830 n868 b297_325_341_364_384_404_857 k297_325_341_364_384_404_857 n869 l870 cs b516_532_561_572_826 k516_532_561_572_826 n874 l875 x879 fv x885 h0 n0) xr21.cells xr21.slots s₁ (entryFrame m #[(.ref b267_404_857), (.ref b502_826), (.ref b6_830), (.int n868)] 5)
  refine Go.cast (ef_SubjectSetTypeToStringPinLaw_ok_3 m b267_404_857 b502_826 b6_830 n868) ?_
  show Go p e below s _ _ _ s₁ (mkF m 0 #[.val (.ref b267_404_857), .val (.ref b502_826), .val (.ref b6_830), .val (.int n868), .unset] [])
  refine Go.step (fun _ k => XS.iloadN X0.here hx rfl (hb hby d29_0) rfl (XS.aloadN X0.here hx rfl (hb hby d29_1) rfl rfl k)) ?_
  show Go p e below s _ _ _ s₁ (mkF m 2 #[.val (.ref b267_404_857), .val (.ref b502_826), .val (.ref b6_830), .val (.int n868), .unset] [(.ref b267_404_857), (.int n868)])
  obtain ⟨cq871, kq871, q871a, q871b, q871c⟩ := isOf hZ e0 E_b267_404_857
  obtain ⟨_, _, ⟨T871, L871, k871, n871⟩, -, X871, ⟨Lc871, hQ871, l871, y871, z871⟩, st871⟩ := X0.virtualBack hx (y := xm19) (z := xm19) hown (mvT hZ (tw159 hw)) (mvT hZ (tw76 hw)) (notFace_of_selects (args := #[]) (mvT hZ (tw78 hw))) (mvT hZ (tw78 hw)) (mvT hZ (tw77 hw)) (by decide) (backOf (W := 1) (rm_String_length_0 l Z a0 hw [] b267_404_857 b297_325_341_364_384_404_857 k297_325_341_364_384_404_857 n869 l870 cs h0 n0 Z0 F_value_b267_404_857 V_b297_325_341_364_384_404_857 E_b267_404_857 Z_S_COMPACT_STRINGS O0 hcs F_coder_b267_404_857) hZ (tw79 hw) (tw6 hw) (by decide) (by decide)) q871a q871c (g := (mkF m 2 #[.val (.ref b267_404_857), .val (.ref b502_826), .val (.ref b6_830), .val (.int n868), .unset] [(.ref b267_404_857), (.int n868)])) rfl (by rw [hml]; rfl) (Steps.refl _) (argsL := []) (rest := [(.int n868)]) (lenOf pd_8 rfl) rfl (by show 2 * 0 + _ ≤ _; exact Nat.le_of_eq rfl) (hb hby d29_2) (fun _ _ => ⟨rfl, e0, (by decide : 0 + 0 ≤ _), (by decide : 0 + 0 ≤ _)⟩)
  dsimp only [Pt.U, Pt.locs, Pt.cells, Pt.slots] at X871 l871 y871 z871 st871 hQ871
  subst l871 y871 z871
  obtain ⟨rfl, N871q, eq871⟩ := hQ871
  have N872 := Fr.app N0 N871q
  refine Go.step (fun _ k => st871.trans (XS.icmpYes X871.here hx rfl (pc0 := 5) (pc' := 10) rfl (hb hby d29_5) rfl (tlt d_873).1 (by decide) (by decide) (XS.iloadN X871.here hx rfl (hb hby d29_10) rfl (XS.aloadN X871.here hx rfl (hb hby d29_11) rfl rfl k)))) ?_
  show Go p e below s _ _ _ T871 (mkF m 12 #[.val (.ref b267_404_857), .val (.ref b502_826), .val (.ref b6_830), .val (.int n868), .unset] [(.ref b502_826), (.int n868)])
  obtain ⟨cq876, kq876, q876a, q876b, q876c⟩ := isOf hZ eq871 E_b502_826
  obtain ⟨_, _, ⟨T876, L876, k876, n876⟩, -, X876, ⟨Lc876, hQ876, l876, y876, z876⟩, st876⟩ := X871.virtualBack hx (y := xm19) (z := xm19) hown (mvT hZ (tw159 hw)) (mvT hZ (tw76 hw)) (notFace_of_selects (args := #[]) (mvT hZ (tw78 hw))) (mvT hZ (tw78 hw)) (mvT hZ (tw77 hw)) (by decide) (backOf (W := 1) (rm_String_length_0 l Z a0 hw [] b502_826 b516_532_561_572_826 k516_532_561_572_826 n874 l875 cs h0 n0 Z0 F_value_b502_826 V_b516_532_561_572_826 E_b502_826 Z_S_COMPACT_STRINGS O0 hcs F_coder_b502_826) hZ (tw79 hw) (tw6 hw) (by decide) (by decide)) q876a q876c (g := (mkF m 12 #[.val (.ref b267_404_857), .val (.ref b502_826), .val (.ref b6_830), .val (.int n868), .unset] [(.ref b502_826), (.int n868)])) rfl (by rw [hml]; rfl) (Steps.refl _) (argsL := []) (rest := [(.int n868)]) (lenOf pd_8 rfl) rfl (by show 2 * 0 + _ ≤ _; exact Nat.le_of_eq rfl) (hb hby d29_12) (fun _ _ => ⟨rfl, eq871, (by decide : 0 + 0 ≤ _), (by decide : 0 + 0 ≤ _)⟩)
  dsimp only [Pt.U, Pt.locs, Pt.cells, Pt.slots] at X876 l876 y876 z876 st876 hQ876
  subst l876 y876 z876
  obtain ⟨rfl, N876q, eq876⟩ := hQ876
  have N877 := Fr.app N872 N876q
  refine Go.step (fun _ k => st876.trans (XS.icmpNo X876.here hx rfl (hb hby d29_15) rfl (tlt d_878).2.1 (XS.aloadN X876.here hx rfl (hb hby d29_18) rfl rfl (XS.iloadN X876.here hx rfl (hb hby d29_19) rfl k)))) ?_
  show Go p e below s _ _ _ T876 (mkF m 20 #[.val (.ref b267_404_857), .val (.ref b502_826), .val (.ref b6_830), .val (.int n868), .unset] [(.int n868), (.ref b502_826)])
  obtain ⟨cq883, kq883, q883a, q883b, q883c⟩ := isOf hZ eq876 E_b502_826
  obtain ⟨_, _, ⟨T883, L883, k883, n883⟩, -, X883, ⟨Lc883, hQ883, l883, y883, z883⟩, st883⟩ := X876.virtualBack hx (y := xm16) (z := xm16) hown (mvT hZ (tw163 hw)) (mvT hZ (tw164 hw)) (notFace_of_selects (args := #[]) (mvT hZ (tw166 hw))) (mvT hZ (tw166 hw)) (mvT hZ (tw165 hw)) (by decide) (backOf (W := 0) (rm_String_charAt_0 l Z a0 hw [] b502_826 n868 cs b516_532_561_572_826 k516_532_561_572_826 n874 l875 fv x879 h0 n0 Z0 E_b502_826 Z_S_COMPACT_STRINGS O0 hcs F_coder_b502_826 F_value_b502_826 V_b516_532_561_572_826 Z_S_SIOOBE_FORMATTER hfv pk_880 d_881 d_882) hZ (tw167 hw) (tw6 hw) (by decide) (by decide)) q883a q883c (g := (mkF m 20 #[.val (.ref b267_404_857), .val (.ref b502_826), .val (.ref b6_830), .val (.int n868), .unset] [(.int n868), (.ref b502_826)])) rfl (by rw [hml]; rfl) (Steps.refl _) (argsL := [(.int n868)]) (rest := []) (lenOf pd_23 rfl) rfl (by show 2 * 0 + _ ≤ _; exact Nat.le_of_eq rfl) (hb hby d29_20) (fun _ _ => ⟨rfl, eq876, (by decide : 0 + 0 ≤ _), (by decide : 0 + 0 ≤ _)⟩)
  dsimp only [Pt.U, Pt.locs, Pt.cells, Pt.slots] at X883 l883 y883 z883 st883 hQ883
  subst l883 y883 z883
  obtain ⟨rfl, N883q, eq883⟩ := hQ883
  have N884 := Fr.app N877 N883q
  refine Go.step (fun _ k => st883.trans (XS.istore X883.here hx rfl (hb hby d29_23) rfl (l' := #[.val (.ref b267_404_857), .val (.ref b502_826), .val (.ref b6_830), .val (.int n868), .val (.int (nar .char (nar .char ((x879 &&& (255 : Int32)).toUInt32.toUInt16.toUInt32.toInt32))))]) rfl (XS.goto X883.here hx rfl (pc0 := 25) (pc' := 57) rfl (hb hby d29_25) (by decide) (by decide) (XS.aloadN X883.here hx rfl (hb hby d29_57) rfl rfl (XS.iloadN X883.here hx rfl (hb hby d29_58) rfl k))))) ?_
  show Go p e below s _ _ _ T883 (mkF m 59 #[.val (.ref b267_404_857), .val (.ref b502_826), .val (.ref b6_830), .val (.int n868), .val (.int (nar .char (nar .char ((x879 &&& (255 : Int32)).toUInt32.toUInt16.toUInt32.toInt32))))] [(.int n868), (.ref b267_404_857)])
  obtain ⟨cq888, kq888, q888a, q888b, q888c⟩ := isOf hZ eq883 E_b267_404_857
  obtain ⟨_, _, ⟨T888, L888, k888, n888⟩, -, X888, ⟨Lc888, hQ888, l888, y888, z888⟩, st888⟩ := X883.virtualBack hx (y := xm16) (z := xm16) hown (mvT hZ (tw163 hw)) (mvT hZ (tw164 hw)) (notFace_of_selects (args := #[]) (mvT hZ (tw166 hw))) (mvT hZ (tw166 hw)) (mvT hZ (tw165 hw)) (by decide) (backOf (W := 0) (rm_String_charAt_0 l Z a0 hw [] b267_404_857 n868 cs b297_325_341_364_384_404_857 k297_325_341_364_384_404_857 n869 l870 fv x885 h0 n0 Z0 E_b267_404_857 Z_S_COMPACT_STRINGS O0 hcs F_coder_b267_404_857 F_value_b267_404_857 V_b297_325_341_364_384_404_857 Z_S_SIOOBE_FORMATTER hfv pk_886 d_881 d_887) hZ (tw167 hw) (tw6 hw) (by decide) (by decide)) q888a q888c (g := (mkF m 59 #[.val (.ref b267_404_857), .val (.ref b502_826), .val (.ref b6_830), .val (.int n868), .val (.int (nar .char (nar .char ((x879 &&& (255 : Int32)).toUInt32.toUInt16.toUInt32.toInt32))))] [(.int n868), (.ref b267_404_857)])) rfl (by rw [hml]; rfl) (Steps.refl _) (argsL := [(.int n868)]) (rest := []) (lenOf pd_23 rfl) rfl (by show 2 * 0 + _ ≤ _; exact Nat.le_of_eq rfl) (hb hby d29_59) (fun _ _ => ⟨rfl, eq883, (by decide : 0 + 0 ≤ _), (by decide : 0 + 0 ≤ _)⟩)
  dsimp only [Pt.U, Pt.locs, Pt.cells, Pt.slots] at X888 l888 y888 z888 st888 hQ888
  subst l888 y888 z888
  obtain ⟨rfl, N888q, eq888⟩ := hQ888
  have N889 := Fr.app N884 N888q
  refine Go.step (fun _ k => st888.trans (XS.iload X888.here hx rfl (hb hby d29_62) rfl (XS.icmpNo X888.here hx rfl (hb hby d29_64) rfl (teq d_890).2 (XS.iconst X888.here hx rfl (hb hby d29_67) (XS.goto X888.here hx rfl (pc0 := 68) (pc' := 72) rfl (hb hby d29_68) (by decide) (by decide) k))))) ?_
  show Go p e below s _ _ _ T888 (mkF m 72 #[.val (.ref b267_404_857), .val (.ref b502_826), .val (.ref b6_830), .val (.int n868), .val (.int (nar .char (nar .char ((x879 &&& (255 : Int32)).toUInt32.toUInt16.toUInt32.toInt32))))] [(.int (1 : Int32))])
  exact Go.retN X888 hx hlk (t := .boolean) Bd.returns (by simp) (hb hby d29_72) eq888 ⟨rfl, N889, rfl⟩ (by decide) (by decide)

theorem ef_law (m : MethodId) (x0 : Int32) (x1 : Int32) (x2 : Int32) : entryFrame m #[(.int x0), (.int x1), (.int x2)] maxLocals = mkF m 0 #[.val (.int x0), .val (.int x1), .val (.int x2), .unset, .unset, .unset, .unset, .unset, .unset] [] := by first | (simp [entryFrame, mkF, argsToLocals, Value.category, maxLocals]; done) | rfl
def Q_law (Z : State) (p1 : Int32) (p2 : Int32) (p3 : Int32) (cs : Int32) (fv : Value) (h0 : Heap) (n0 : Nat) (v : Option Value) (h : Heap) (L : List Loc) : Prop := v = some (.int (1 : Int32)) ∧ Fr n0 L
set_option maxRecDepth 65536 in
set_option maxHeartbeats 40000000 in
theorem rm_law (l : Launch) (Z : State) (a0 : Array Value) (hw : ∀ d ∈ tables_1, d.before a0 Z = true) (ws : List Jvm.Cond) (p1 : Int32) (p2 : Int32) (p3 : Int32) (cs : Int32) (fv : Value) (h0 : Heap) (n0 : Nat) (Z0 : n0 ≤ h0.size) (O0 : Old Z n0 h0) (Z_S_COMPACT_STRINGS : Sta Z Z.heap xs25 xs28 "Z" (.int cs)) (hcs : ¬ cs = (0 : Int32)) (Z_S_SIOOBE_FORMATTER : Sta Z Z.heap xs8 xs24 xs9 fv) (hfv : fv.isRef = true) :
    MetFree l x (head1 (Jvm.Cond.code x code maxLocals ret :: ws) room_1) (fun a U => a = #[(.int p1), (.int p2), (.int p3)] ∧ Z.Warmed39 U.vm ∧ U.heap = h0 ∧ CHv Z consts_1 U.vm h0) (fun _ _ _ _ _ => True) (fun _ U o U' => ∃ v L, o = .returned v ∧ Q_law Z p1 p2 p3 cs fv h0 n0 v U'.heap L ∧ CHr Z consts_1 U.vm U.heap U'.vm U'.heap ∧ ReturnedEndW U o U' L room_1.cells room_1.slots) := by
  refine MetFree.of_bodySF (plainFor_of_name pn_2) hisR ?_
  intro p e s m args below meth c s₁ Bd hml0 hP hK
  obtain ⟨rfl, hZ, hh, hCH⟩ := hP
  have hx := Bd.exec
  have hby := Bd.bytes
  have hlk : meth.locks = false := BodyLoose.notSynchronized Bd
  have hml : c.maxLocals = 9 := hml0
  have hown : s.vm.findClass xs0 = some m.cls := findClass_of_methodNamed Bd.named
  have hnm := (name_of_methodNamed Bd.named Bd.method).1
  have X0 : Stand p l e room_1 (s.setVm s.vm) m #[(.int p1), (.int p2), (.int p3)] below meth c s₁ [] 0 0 := Stand.of_body Bd
  have e0 : s₁.heap = h0 := by rw [← hh, Bd.state]; rfl
  have N0 := Fr.nil n0
  have hS0 : s.Since s.vm h0.size := (State.WarmedH.refl s).since _
  have CH0 : CHr Z consts_1 s.vm s.heap s.vm h0 := by rw [hh]; exact CHr.refl hCH
  have hZ_0 := hZ
  show GoH p e below s (((Q_law Z p1 p2 p3 cs fv h0 n0, fun vm h => CHr Z consts_1 s.vm s.heap vm h) : (Option Value → Heap → List Loc → Prop) × (Vm → Heap → Prop))) room_1.cells room_1.slots s₁ (entryFrame m #[(.int p1), (.int p2), (.int p3)] maxLocals)
  refine GoH.cast (ef_law m p1 p2 p3) ?_
  show GoH p e below s _ _ _ s₁ (mkF m 0 #[.val (.int p1), .val (.int p2), .val (.int p3), .unset, .unset, .unset, .unset, .unset, .unset] [])
  refine GoH.step (fun _ k => XS.iloadN X0.here hx rfl (hb hby at_0) rfl (XS.iconst X0.here hx rfl (hb hby at_1) (XS.iand X0.here hx rfl (hb hby at_2) rfl (XS.iconst X0.here hx rfl (hb hby at_3) (iremM X0 hx rfl (hb hby at_4) rfl (by decide) k))))) ?_
  show GoH p e below s _ _ _ s₁ (mkF m 5 #[.val (.int p1), .val (.int p2), .val (.int p3), .unset, .unset, .unset, .unset, .unset, .unset] [(.int ((p1 &&& (3 : Int32)) % (3 : Int32)))])
  obtain ⟨tl, etl⟩ : ∃ z, z = ((p1 &&& (3 : Int32)) % (3 : Int32)) := ⟨_, rfl⟩
  have htl : tl = (0 : Int32) ∨ tl = (1 : Int32) ∨ tl = (2 : Int32) := by rw [etl]; exact own_m3 _
  rw [← etl]
  refine GoH.step (fun _ k => XS.istoreN X0.here hx rfl (hb hby at_5) rfl (l' := #[.val (.int p1), .val (.int p2), .val (.int p3), .val (.int tl), .unset, .unset, .unset, .unset, .unset]) rfl (XS.iloadN X0.here hx rfl (hb hby at_6) rfl (XS.iconst X0.here hx rfl (hb hby at_7) (XS.iushr X0.here hx rfl (hb hby at_8) rfl (XS.iconst X0.here hx rfl (hb hby at_9) (XS.iand X0.here hx rfl (hb hby at_10) rfl (XS.iconst X0.here hx rfl (hb hby at_11) (iremM X0 hx rfl (hb hby at_12) rfl (by decide) k)))))))) ?_
  show GoH p e below s _ _ _ s₁ (mkF m 13 #[.val (.int p1), .val (.int p2), .val (.int p3), .val (.int tl), .unset, .unset, .unset, .unset, .unset] [(.int ((((p1.toUInt32 >>> ((2 : Int32) &&& 31).toUInt32).toInt32) &&& (3 : Int32)) % (3 : Int32)))])
  obtain ⟨rl, erl⟩ : ∃ z, z = ((((p1.toUInt32 >>> ((2 : Int32) &&& 31).toUInt32).toInt32) &&& (3 : Int32)) % (3 : Int32)) := ⟨_, rfl⟩
  have hrl : rl = (0 : Int32) ∨ rl = (1 : Int32) ∨ rl = (2 : Int32) := by rw [erl]; exact own_m3 _
  rw [← erl]
  refine GoH.step (fun _ k => XS.istore X0.here hx rfl (hb hby at_13) rfl (l' := #[.val (.int p1), .val (.int p2), .val (.int p3), .val (.int tl), .val (.int rl), .unset, .unset, .unset, .unset]) rfl (XS.iloadN X0.here hx rfl (hb hby at_15) rfl (XS.iloadN X0.here hx rfl (hb hby at_16) rfl (XS.sipush X0.here hx rfl (hb hby at_17) (XS.iand X0.here hx rfl (hb hby at_20) rfl (XS.i2c X0.here hx rfl (hb hby at_21) rfl k)))))) ?_
  show GoH p e below s _ _ _ s₁ (mkF m 22 #[.val (.int p1), .val (.int p2), .val (.int p3), .val (.int tl), .val (.int rl), .unset, .unset, .unset, .unset] [(.int ((p2 &&& (255 : Int32)).toUInt32.toUInt16.toUInt32.toInt32)), (.int tl)])
  obtain ⟨c0, ec0⟩ : ∃ z, z = ((p2 &&& (255 : Int32)).toUInt32.toUInt16.toUInt32.toInt32) := ⟨_, rfl⟩
  have hc0 : ¬ (255 : Int32) < (nar .char c0) := by rw [ec0]; exact own_c2 _
  rw [← ec0]
  refine GoH.step (fun _ k => XS.iloadN X0.here hx rfl (hb hby at_22) rfl (XS.bipush X0.here hx rfl (hb hby at_23) (XS.iushr X0.here hx rfl (hb hby at_25) rfl (XS.sipush X0.here hx rfl (hb hby at_26) (XS.iand X0.here hx rfl (hb hby at_29) rfl (XS.i2c X0.here hx rfl (hb hby at_30) rfl k)))))) ?_
  show GoH p e below s _ _ _ s₁ (mkF m 31 #[.val (.int p1), .val (.int p2), .val (.int p3), .val (.int tl), .val (.int rl), .unset, .unset, .unset, .unset] [(.int ((((p2.toUInt32 >>> ((8 : Int32) &&& 31).toUInt32).toInt32) &&& (255 : Int32)).toUInt32.toUInt16.toUInt32.toInt32)), (.int c0), (.int tl)])
  obtain ⟨c1, ec1⟩ : ∃ z, z = ((((p2.toUInt32 >>> ((8 : Int32) &&& 31).toUInt32).toInt32) &&& (255 : Int32)).toUInt32.toUInt16.toUInt32.toInt32) := ⟨_, rfl⟩
  have hc1 : ¬ (255 : Int32) < (nar .char c1) := by rw [ec1]; exact own_c2 _
  rw [← ec1]
  show GoH p e below s _ _ _ s₁ (mkF m 31 #[.val (.int p1), .val (.int p2), .val (.int p3), .val (.int tl), .val (.int rl), .unset, .unset, .unset, .unset] [(.int c1), (.int c0), (.int tl)])
  rcases htl with rfl | rfl | rfl
  · show GoH p e below s _ _ _ s₁ (mkF m 31 #[.val (.int p1), .val (.int p2), .val (.int p3), .val (.int (0 : Int32)), .val (.int rl), .unset, .unset, .unset, .unset] [(.int c1), (.int c0), (.int (0 : Int32))])
    obtain ⟨_, _, ⟨T57, L57, k57, n57⟩, -, X57s, hs57, hg57, ⟨Lc57, hQ57, l57, y57, z57, ch57⟩, st57⟩ := callSS X0 hx (y := xm34) hown (mvT hZ (tw0 hw)) (mvT hZ (tw1 hw)) (mvT hZ (tw2 hw)) (mvT hZ (tw3 hw)) (by decide) (backOfSH (W := 0) (rm_SubjectSetTypeToStringPinLaw_mk_0 l Z a0 hw [] c0 c1 h0 n0 Z0) hZ (tw3 hw) (tw2 hw) (by decide) (by decide) (own_EW hw) CH0.1) (g := (mkF m 31 #[.val (.int p1), .val (.int p2), .val (.int p3), .val (.int (0 : Int32)), .val (.int rl), .unset, .unset, .unset, .unset] [(.int c1), (.int c0), (.int (0 : Int32))])) rfl (by rw [hml]; rfl) (argsL := [(.int (0 : Int32)), (.int c0), (.int c1)]) (rest := []) (lenOf pd_3 rfl) rfl (by show 2 * 0 + _ ≤ _; exact Nat.le_of_eq rfl) (hb hby at_31) (fun _ _ => ⟨rfl, e0, (by decide : 0 + 6 ≤ _), (by decide : 0 + 12 ≤ _)⟩)
    dsimp only [Pt.U, Pt.locs, Pt.cells, Pt.slots] at X57s hs57 hg57 l57 y57 z57 st57 hQ57 ch57
    subst l57 y57 z57
    obtain ⟨X57, hS57, hZ57, hown57⟩ := rebS hS0 (by rw [e0]; exact (Nat.le_refl _)) X57s hs57 hg57 hZ hown
    obtain ⟨b6_57, b13_41_49_57, kb13_41_49_57, rfl, N57q, K57, P57_0, P57_1, P57_2, P57_3, P57_4⟩ := hQ57
    have N58 := Fr.app N0 N57q
    have f59 := CH0.trans ch57
    refine GoH.step (fun _ k => st57.trans (XS.astore X57.here hx rfl (hb hby at_34) rfl rfl (l' := #[.val (.int p1), .val (.int p2), .val (.int p3), .val (.int (0 : Int32)), .val (.int rl), .val (.ref b6_57), .unset, .unset, .unset]) rfl (XS.iload X57.here hx rfl (hb hby at_36) rfl (XS.iloadN X57.here hx rfl (hb hby at_38) rfl (XS.sipush X57.here hx rfl (hb hby at_39) (XS.iand X57.here hx rfl (hb hby at_42) rfl (XS.i2c X57.here hx rfl (hb hby at_43) rfl k))))))) ?_
    show GoH p e below s _ _ _ T57 (mkF m 44 #[.val (.int p1), .val (.int p2), .val (.int p3), .val (.int (0 : Int32)), .val (.int rl), .val (.ref b6_57), .unset, .unset, .unset] [(.int ((p3 &&& (255 : Int32)).toUInt32.toUInt16.toUInt32.toInt32)), (.int rl)])
    obtain ⟨c2, ec2⟩ : ∃ z, z = ((p3 &&& (255 : Int32)).toUInt32.toUInt16.toUInt32.toInt32) := ⟨_, rfl⟩
    have hc2 : ¬ (255 : Int32) < (nar .char c2) := by rw [ec2]; exact own_c2 _
    rw [← ec2]
    refine GoH.step (fun _ k => XS.iloadN X57.here hx rfl (hb hby at_44) rfl (XS.bipush X57.here hx rfl (hb hby at_45) (XS.iushr X57.here hx rfl (hb hby at_47) rfl (XS.sipush X57.here hx rfl (hb hby at_48) (XS.iand X57.here hx rfl (hb hby at_51) rfl (XS.i2c X57.here hx rfl (hb hby at_52) rfl k)))))) ?_
    show GoH p e below s _ _ _ T57 (mkF m 53 #[.val (.int p1), .val (.int p2), .val (.int p3), .val (.int (0 : Int32)), .val (.int rl), .val (.ref b6_57), .unset, .unset, .unset] [(.int ((((p3.toUInt32 >>> ((8 : Int32) &&& 31).toUInt32).toInt32) &&& (255 : Int32)).toUInt32.toUInt16.toUInt32.toInt32)), (.int c2), (.int rl)])
    obtain ⟨c3, ec3⟩ : ∃ z, z = ((((p3.toUInt32 >>> ((8 : Int32) &&& 31).toUInt32).toInt32) &&& (255 : Int32)).toUInt32.toUInt16.toUInt32.toInt32) := ⟨_, rfl⟩
    have hc3 : ¬ (255 : Int32) < (nar .char c3) := by rw [ec3]; exact own_c2 _
    rw [← ec3]
    show GoH p e below s _ _ _ T57 (mkF m 53 #[.val (.int p1), .val (.int p2), .val (.int p3), .val (.int (0 : Int32)), .val (.int rl), .val (.ref b6_57), .unset, .unset, .unset] [(.int c3), (.int c2), (.int rl)])
    rcases hrl with rfl | rfl | rfl
    · show GoH p e below s _ _ _ T57 (mkF m 53 #[.val (.int p1), .val (.int p2), .val (.int p3), .val (.int (0 : Int32)), .val (.int (0 : Int32)), .val (.ref b6_57), .unset, .unset, .unset] [(.int c3), (.int c2), (.int (0 : Int32))])
      have f60 := (Nat.le_trans Z0 K57.1)
      obtain ⟨_, _, ⟨T61, L61, k61, n61⟩, -, X61s, hs61, hg61, ⟨Lc61, hQ61, l61, y61, z61, ch61⟩, st61⟩ := callSS X57 hx (y := xm34) hown57 (mvT hZ57 (tw0 hw)) (mvT hZ57 (tw1 hw)) (mvT hZ57 (tw2 hw)) (mvT hZ57 (tw3 hw)) (by decide) (backOfSH (W := 0) (rm_SubjectSetTypeToStringPinLaw_mk_0 l Z a0 hw [] c2 c3 T57.heap n0 f60) hZ57 (tw3 hw) (tw2 hw) (by decide) (by decide) (own_EW hw) f59.1) (g := (mkF m 53 #[.val (.int p1), .val (.int p2), .val (.int p3), .val (.int (0 : Int32)), .val (.int (0 : Int32)), .val (.ref b6_57), .unset, .unset, .unset] [(.int c3), (.int c2), (.int (0 : Int32))])) rfl (by rw [hml]; rfl) (argsL := [(.int (0 : Int32)), (.int c2), (.int c3)]) (rest := []) (lenOf pd_3 rfl) rfl (by show 2 * 0 + _ ≤ _; exact Nat.le_of_eq rfl) (hb hby at_53) (fun _ _ => ⟨rfl, rfl, (by decide : 6 + 6 ≤ _), (by decide : 12 + 12 ≤ _)⟩)
      dsimp only [Pt.U, Pt.locs, Pt.cells, Pt.slots] at X61s hs61 hg61 l61 y61 z61 st61 hQ61 ch61
      subst l61 y61 z61
      obtain ⟨X61, hS61, hZ61, hown61⟩ := rebS hS57 (by exact (Nat.le_refl _)) X61s hs61 hg61 hZ57 hown57
      obtain ⟨b6_61, b13_41_49_61, kb13_41_49_61, rfl, N61q, K61, P61_0, P61_1, P61_2, P61_3, P61_4⟩ := hQ61
      have N62 := Fr.app N58 N61q
      have f63 := f59.trans ch61
      refine GoH.step (fun _ k => st61.trans (XS.astore X61.here hx rfl (hb hby at_56) rfl rfl (l' := #[.val (.int p1), .val (.int p2), .val (.int p3), .val (.int (0 : Int32)), .val (.int (0 : Int32)), .val (.ref b6_57), .val (.ref b6_61), .unset, .unset]) rfl k)) ?_
      show GoH p e below s _ _ _ T61 (mkF m 58 #[.val (.int p1), .val (.int p2), .val (.int p3), .val (.int (0 : Int32)), .val (.int (0 : Int32)), .val (.ref b6_57), .val (.ref b6_61), .unset, .unset] [])
      obtain ⟨T64, h64, X64, e64, E64, A64, D64, -, st64⟩ := newO X61 hx hZ61 hown61 (tw26 hw) (tw27 hw) (tw28 hw) rfl (g := (mkF m 58 #[.val (.int p1), .val (.int p2), .val (.int p3), .val (.int (0 : Int32)), .val (.int (0 : Int32)), .val (.ref b6_57), .val (.ref b6_61), .unset, .unset] [])) rfl (hb hby at_58) (by decide) (by decide)
      obtain ⟨b64, g64⟩ : ∃ z, z = T61.heap.size := ⟨_, rfl⟩
      rw [← g64] at A64 D64 st64
      have f65 : Fld Z h64 b64 xs2 "type" xs21 .null := D64 (Or.inr (tw39 hw)) (ty := (.object xs25)) (by decide)
      have f66 : Fld Z h64 b64 xs2 "relation" xs21 .null := D64 (Or.inr (tw41 hw)) (ty := (.object xs25)) (by decide)
      refine GoH.step (fun _ k => st64 _ (XS.dup X64.here hx rfl (hb hby at_61) rfl rfl (XS.aload X64.here hx rfl (hb hby at_62) rfl rfl (XS.aload X64.here hx rfl (hb hby at_64) rfl rfl k)))) ?_
      show GoH p e below s _ _ _ T64 (mkF m 66 #[.val (.int p1), .val (.int p2), .val (.int p3), .val (.int (0 : Int32)), .val (.int (0 : Int32)), .val (.ref b6_57), .val (.ref b6_61), .unset, .unset] [(.ref b6_61), (.ref b6_57), (.ref b64), (.ref b64)])
      have f71 := (Nat.le_trans f60 K61.1)
      have g72 := Nat.le_trans f71 (Nat.le_of_eq g64.symm)
      have f83 := (Nat.le_trans f71 E64.1)
      obtain ⟨_, _, ⟨T84, L84, k84, n84⟩, -, X84, ⟨Lc84, hQ84, l84, y84, z84⟩, st84⟩ := X64.specialBack hx (y := xm31) rfl hown61 (mvT hZ61 (tw29 hw)) (mvT hZ61 (tw30 hw)) (mvT hZ61 (tw31 hw)) (by decide) (backOf (W := 1) (rm_SubjectSetType_new_0 l Z a0 hw [] b64 b6_57 b6_61 h64 n0 f83 A64 f65 g72 f66) hZ61 (tw31 hw) (tw28 hw) (by decide) (by decide)) (g := (mkF m 66 #[.val (.int p1), .val (.int p2), .val (.int p3), .val (.int (0 : Int32)), .val (.int (0 : Int32)), .val (.ref b6_57), .val (.ref b6_61), .unset, .unset] [(.ref b6_61), (.ref b6_57), (.ref b64), (.ref b64)])) rfl (by rw [hml]; rfl) (Steps.refl _) (a := b64) (argsL := [(.ref b6_57), (.ref b6_61)]) (rest := [(.ref b64)]) (lenOf pd_5 rfl) rfl (by show 2 * 0 + _ ≤ _; exact Nat.le_of_eq rfl) (hb hby at_66) (fun _ _ => ⟨rfl, e64, (by decide : 13 + 0 ≤ _), (by decide : 26 + 0 ≤ _)⟩)
      dsimp only [Pt.U, Pt.locs, Pt.cells, Pt.slots] at X84 l84 y84 z84 st84 hQ84
      subst l84 y84 z84
      obtain ⟨rfl, N84q, K84, P84_0, P84_1⟩ := hQ84
      have N85 := Fr.app N62 N84q
      refine GoH.step (fun _ k => st84.trans k) ?_
      show GoH p e below s _ _ _ T84 (mkF m 69 #[.val (.int p1), .val (.int p2), .val (.int p3), .val (.int (0 : Int32)), .val (.int (0 : Int32)), .val (.ref b6_57), .val (.ref b6_61), .unset, .unset] [(.ref b64)])
      have f415 := ((((O0.keep K57 all0).keep K61 all0).ext E64).keep K84 (allS g72 all0))
      have f416 := (Nat.le_trans f83 K84.1)
      have f417 := (((P57_1.keep K61).ext E64).keep K84)
      have f418 := (P57_1.keep K61)
      have ne419 : b6_57 ≠ b64 := Nat.ne_of_lt (Nat.lt_of_lt_of_le f418.lt (Nat.le_of_eq g64.symm))
      have f420 := (((P57_2.keep K61 nin0).ext E64).keep K84 (ninS ne419 nin0))
      have f421 := (P57_4.keep K61 nin0)
      have ne422 : b13_41_49_57 ≠ b64 := Nat.ne_of_lt (Nat.lt_of_lt_of_le f421.lt (Nat.le_of_eq g64.symm))
      have f423 := (((P57_4.keep K61 nin0).ext E64).keep K84 (ninS ne422 nin0))
      have f424 := (((P57_3.keep K61 nin0).ext E64).keep K84 (ninS ne419 nin0))
      have f425 := ((P61_1.ext E64).keep K84)
      have ne426 : b6_61 ≠ b64 := Nat.ne_of_lt (Nat.lt_of_lt_of_le P61_1.lt (Nat.le_of_eq g64.symm))
      have f427 := ((P61_2.ext E64).keep K84 (ninS ne426 nin0))
      have ne428 : b13_41_49_61 ≠ b64 := Nat.ne_of_lt (Nat.lt_of_lt_of_le P61_4.lt (Nat.le_of_eq g64.symm))
      have f429 := ((P61_4.ext E64).keep K84 (ninS ne428 nin0))
      have f430 := ((P61_3.ext E64).keep K84 (ninS ne426 nin0))
      have f432 := (own_chK (own_chE f63 E64) K84 (sfS (Safe.exa hZ61.alike A64 (by decide) (by decide)) sf0))
      have f433 := (A64.keep K84)
      obtain ⟨cq431, kq431, q431a, q431b, q431c⟩ := isOf hZ61 rfl f433
      obtain ⟨_, _, ⟨T431, L431, k431, n431⟩, -, X431s, hs431, hg431, ⟨Lc431, hQ431, l431, y431, z431, ch431⟩, st431⟩ := X84.virtualBackS hx (y := xm22) (z := xm22) hown61 (mvT hZ61 (tw42 hw)) (mvT hZ61 (tw43 hw)) (notFace_of_selects (args := #[]) (mvT hZ61 (tw45 hw))) (mvT hZ61 (tw45 hw)) (mvT hZ61 (tw44 hw)) (by decide) (backOfSH (W := 0) (rm_SubjectSetType_toString_0 l Z a0 hw [] b64 cs b6_57 b13_41_49_57 kb13_41_49_57 (0 : Int32) ([]) b6_61 b13_41_49_61 kb13_41_49_61 (0 : Int32) ([]) T84.heap n0 f416 Z_S_COMPACT_STRINGS f415 hcs P84_0 f417 f420 f423 f424 (by decide) (by decide) (Nat.le_of_ble_eq_true rfl) (Nat.le_of_ble_eq_true rfl) (Nat.le_of_ble_eq_true rfl) (by decide) (by decide) (Nat.le_of_ble_eq_true rfl) (Nat.le_of_ble_eq_true rfl) P84_1 f425 f427 f429 f430 (by decide) (by decide) (by decide) (Nat.le_of_ble_eq_true rfl) (Nat.le_of_ble_eq_true rfl) (Nat.le_of_ble_eq_true rfl) (by decide) (by decide) (by decide) (Nat.le_of_ble_eq_true rfl) (by decide) (Nat.le_of_ble_eq_true rfl) (Nat.le_of_ble_eq_true rfl) (Nat.le_of_ble_eq_true rfl)) hZ61 (tw46 hw) (tw28 hw) (by decide) (by decide) (own_EW hw) f432.1) q431a q431c (g := (mkF m 69 #[.val (.int p1), .val (.int p2), .val (.int p3), .val (.int (0 : Int32)), .val (.int (0 : Int32)), .val (.ref b6_57), .val (.ref b6_61), .unset, .unset] [(.ref b64)])) rfl (by rw [hml]; rfl) (Steps.refl _) (argsL := []) (rest := []) (lenOf pd_21 rfl) rfl (by show 2 * 0 + _ ≤ _; exact Nat.le_of_eq rfl) (hb hby at_69) (fun _ _ => ⟨rfl, rfl, (by decide : 13 + 6 ≤ _), (by decide : 26 + 48 ≤ _)⟩)
      dsimp only [Pt.U, Pt.locs, Pt.cells, Pt.slots] at X431s hs431 hg431 l431 y431 z431 st431 hQ431 ch431
      subst l431 y431 z431
      have f434 := (Nat.le_trans (Nat.le_trans (Nat.le_refl _) E64.1) K84.1)
      obtain ⟨X431, hS431, hZ431, hown431⟩ := rebS hS61 (by exact f434) X431s hs431 hg431 hZ61 hown61
      obtain ⟨b267_404_431, b297_325_341_364_384_404_431, k297_325_341_364_384_404_431, rfl, N431q, K431, P431_0, P431_1, P431_2, P431_3, P431_4, P431_5, P431_6⟩ := hQ431
      have N435 := Fr.app N85 N431q
      have f436 := f432.trans ch431
      refine GoH.step (fun _ k => st431.trans k) ?_
      show GoH p e below s _ _ _ T431 (mkF m 72 #[.val (.int p1), .val (.int p2), .val (.int p3), .val (.int (0 : Int32)), .val (.int (0 : Int32)), .val (.ref b6_57), .val (.ref b6_61), .unset, .unset] [(.ref b267_404_431)])
      have f437 : Arv Z T431.heap b297_325_341_364_384_404_431 k297_325_341_364_384_404_431 .byte (1 : Int32) [(.int (35 : Int32))] (.int (0 : Int32)) := P431_5
      refine GoH.step (fun _ k => XS.astore X431.here hx rfl (hb hby at_72) rfl rfl (l' := #[.val (.int p1), .val (.int p2), .val (.int p3), .val (.int (0 : Int32)), .val (.int (0 : Int32)), .val (.ref b6_57), .val (.ref b6_61), .val (.ref b267_404_431), .unset]) rfl (XS.aload X431.here hx rfl (hb hby at_74) rfl rfl (XS.ifnonnullYes X431.here hx rfl (pc0 := 76) (pc' := 81) rfl (hb hby at_76) rfl (by decide) (by decide) (XS.iloadN X431.here hx rfl (hb hby at_81) rfl (XS.iconst X431.here hx rfl (hb hby at_82) (XS.iadd X431.here hx rfl (hb hby at_83) rfl (XS.iload X431.here hx rfl (hb hby at_84) rfl (XS.iadd X431.here hx rfl (hb hby at_86) rfl (XS.istore X431.here hx rfl (hb hby at_87) rfl (l' := #[.val (.int p1), .val (.int p2), .val (.int p3), .val (.int (0 : Int32)), .val (.int (0 : Int32)), .val (.ref b6_57), .val (.ref b6_61), .val (.ref b267_404_431), .val (.int (1 : Int32))]) rfl (XS.aload X431.here hx rfl (hb hby at_89) rfl rfl k)))))))))) ?_
      show GoH p e below s _ _ _ T431 (mkF m 91 #[.val (.int p1), .val (.int p2), .val (.int p3), .val (.int (0 : Int32)), .val (.int (0 : Int32)), .val (.ref b6_57), .val (.ref b6_61), .val (.ref b267_404_431), .val (.int (1 : Int32))] [(.ref b267_404_431)])
      have f438 := (f415.keep K431 all0)
      have f439 := (Nat.le_trans f416 K431.1)
      obtain ⟨cq440, kq440, q440a, q440b, q440c⟩ := isOf hZ431 rfl P431_1
      obtain ⟨_, _, ⟨T440, L440, k440, n440⟩, -, X440, ⟨Lc440, hQ440, l440, y440, z440⟩, st440⟩ := X431.virtualBack hx (y := xm19) (z := xm19) hown431 (mvT hZ431 (tw159 hw)) (mvT hZ431 (tw76 hw)) (notFace_of_selects (args := #[]) (mvT hZ431 (tw78 hw))) (mvT hZ431 (tw78 hw)) (mvT hZ431 (tw77 hw)) (by decide) (backOf (W := 0) (rm_String_length_0 l Z a0 hw [] b267_404_431 b297_325_341_364_384_404_431 k297_325_341_364_384_404_431 (1 : Int32) ([(.int (35 : Int32))]) cs T431.heap n0 f439 P431_2 f437 P431_1 Z_S_COMPACT_STRINGS f438 hcs P431_3) hZ431 (tw79 hw) (tw6 hw) (by decide) (by decide)) q440a q440c (g := (mkF m 91 #[.val (.int p1), .val (.int p2), .val (.int p3), .val (.int (0 : Int32)), .val (.int (0 : Int32)), .val (.ref b6_57), .val (.ref b6_61), .val (.ref b267_404_431), .val (.int (1 : Int32))] [(.ref b267_404_431)])) rfl (by rw [hml]; rfl) (Steps.refl _) (argsL := []) (rest := []) (lenOf pd_8 rfl) rfl (by show 2 * 0 + _ ≤ _; exact Nat.le_of_eq rfl) (hb hby at_91) (fun _ _ => ⟨rfl, rfl, (by decide : 19 + 0 ≤ _), (by decide : 74 + 0 ≤ _)⟩)
      dsimp only [Pt.U, Pt.locs, Pt.cells, Pt.slots] at X440 l440 y440 z440 st440 hQ440
      subst l440 y440 z440
      obtain ⟨rfl, N440q, eq440⟩ := hQ440
      have N441 := Fr.app N435 N440q
      refine GoH.step (fun _ k => st440.trans (XS.iload X440.here hx rfl (hb hby at_94) rfl (XS.icmpYes X440.here hx rfl (pc0 := 96) (pc' := 101) rfl (hb hby at_96) rfl (teq (by decide)).1 (by decide) (by decide) (XS.aload X440.here hx rfl (hb hby at_101) rfl rfl (XS.aload X440.here hx rfl (hb hby at_103) rfl rfl (XS.aload X440.here hx rfl (hb hby at_105) rfl rfl (XS.iconst X440.here hx rfl (hb hby at_107) k))))))) ?_
      show GoH p e below s _ _ _ T440 (mkF m 108 #[.val (.int p1), .val (.int p2), .val (.int p3), .val (.int (0 : Int32)), .val (.int (0 : Int32)), .val (.ref b6_57), .val (.ref b6_61), .val (.ref b267_404_431), .val (.int (1 : Int32))] [(.int (0 : Int32)), (.ref b6_61), (.ref b6_57), (.ref b267_404_431)])
      have f482 := (f417.keep K431)
      have f483 := (f420.keep K431 nin0)
      have f484 := (f423.keep K431 nin0)
      have f485 := (f424.keep K431 nin0)
      obtain ⟨_, _, ⟨T486, L486, k486, n486⟩, -, X486, ⟨Lc486, hQ486, l486, y486, z486⟩, st486⟩ := Jvm.LawKit.callS X440 hx (y := xm35) hown431 (mvT hZ431 (tw160 hw)) (mvT hZ431 (tw161 hw)) (mvT hZ431 (tw2 hw)) (mvT hZ431 (tw162 hw)) (by decide) (backOf (W := 0) (rm_SubjectSetTypeToStringPinLaw_ok_0 l Z a0 hw [] b267_404_431 b6_57 b6_61 (0 : Int32) b297_325_341_364_384_404_431 k297_325_341_364_384_404_431 (1 : Int32) ([(.int (35 : Int32))]) cs b13_41_49_57 kb13_41_49_57 (0 : Int32) ([]) fv (35 : Int32) T431.heap n0 f439 P431_1 P431_2 f437 P431_3 Z_S_COMPACT_STRINGS f438 hcs (by decide) f482 f483 f484 f485 (by decide) (by decide) Z_S_SIOOBE_FORMATTER hfv rfl (by decide) (by decide) (by decide)) hZ431 (tw162 hw) (tw2 hw) (by decide) (by decide)) (g := (mkF m 108 #[.val (.int p1), .val (.int p2), .val (.int p3), .val (.int (0 : Int32)), .val (.int (0 : Int32)), .val (.ref b6_57), .val (.ref b6_61), .val (.ref b267_404_431), .val (.int (1 : Int32))] [(.int (0 : Int32)), (.ref b6_61), (.ref b6_57), (.ref b267_404_431)])) rfl (by rw [hml]; rfl) (argsL := [(.ref b267_404_431), (.ref b6_57), (.ref b6_61), (.int (0 : Int32))]) (rest := []) (lenOf pd_24 rfl) rfl (by show 2 * 0 + _ ≤ _; exact Nat.le_of_eq rfl) (hb hby at_108) (fun _ _ => ⟨rfl, eq440, (by decide : 19 + 0 ≤ _), (by decide : 74 + 0 ≤ _)⟩)
      dsimp only [Pt.U, Pt.locs, Pt.cells, Pt.slots] at X486 l486 y486 z486 st486 hQ486
      subst l486 y486 z486
      obtain ⟨rfl, N486q, eq486⟩ := hQ486
      have N487 := Fr.app N441 N486q
      refine GoH.step (fun _ k => st486 _ (XS.ifNo X486.here hx rfl (hb hby at_111) rfl ((if0 _ _).trans (feq (by decide)).1) (XS.aload X486.here hx rfl (hb hby at_114) rfl rfl (XS.aload X486.here hx rfl (hb hby at_116) rfl rfl (XS.aload X486.here hx rfl (hb hby at_118) rfl rfl (XS.iconst X486.here hx rfl (hb hby at_120) k)))))) ?_
      show GoH p e below s _ _ _ T486 (mkF m 121 #[.val (.int p1), .val (.int p2), .val (.int p3), .val (.int (0 : Int32)), .val (.int (0 : Int32)), .val (.ref b6_57), .val (.ref b6_61), .val (.ref b267_404_431), .val (.int (1 : Int32))] [(.int (1 : Int32)), (.ref b6_61), (.ref b6_57), (.ref b267_404_431)])
      obtain ⟨_, _, ⟨T494, L494, k494, n494⟩, -, X494, ⟨Lc494, hQ494, l494, y494, z494⟩, st494⟩ := Jvm.LawKit.callS X486 hx (y := xm35) hown431 (mvT hZ431 (tw160 hw)) (mvT hZ431 (tw161 hw)) (mvT hZ431 (tw2 hw)) (mvT hZ431 (tw162 hw)) (by decide) (backOf (W := 0) (rm_SubjectSetTypeToStringPinLaw_ok_1 l Z a0 hw [] b267_404_431 b6_57 b6_61 (1 : Int32) b297_325_341_364_384_404_431 k297_325_341_364_384_404_431 (1 : Int32) ([(.int (35 : Int32))]) cs T431.heap n0 f439 P431_1 P431_2 f437 P431_3 Z_S_COMPACT_STRINGS f438 hcs (by decide)) hZ431 (tw162 hw) (tw2 hw) (by decide) (by decide)) (g := (mkF m 121 #[.val (.int p1), .val (.int p2), .val (.int p3), .val (.int (0 : Int32)), .val (.int (0 : Int32)), .val (.ref b6_57), .val (.ref b6_61), .val (.ref b267_404_431), .val (.int (1 : Int32))] [(.int (1 : Int32)), (.ref b6_61), (.ref b6_57), (.ref b267_404_431)])) rfl (by rw [hml]; rfl) (argsL := [(.ref b267_404_431), (.ref b6_57), (.ref b6_61), (.int (1 : Int32))]) (rest := []) (lenOf pd_24 rfl) rfl (by show 2 * 0 + _ ≤ _; exact Nat.le_of_eq rfl) (hb hby at_121) (fun _ _ => ⟨rfl, eq486, (by decide : 19 + 0 ≤ _), (by decide : 74 + 0 ≤ _)⟩)
      dsimp only [Pt.U, Pt.locs, Pt.cells, Pt.slots] at X494 l494 y494 z494 st494 hQ494
      subst l494 y494 z494
      obtain ⟨rfl, N494q, eq494⟩ := hQ494
      have N495 := Fr.app N487 N494q
      refine GoH.step (fun _ k => st494 _ (XS.ifNo X494.here hx rfl (hb hby at_124) rfl ((if0 _ _).trans (feq (by decide)).1) (XS.aload X494.here hx rfl (hb hby at_127) rfl rfl (XS.aload X494.here hx rfl (hb hby at_129) rfl rfl (XS.aload X494.here hx rfl (hb hby at_131) rfl rfl (XS.iconst X494.here hx rfl (hb hby at_133) k)))))) ?_
      show GoH p e below s _ _ _ T494 (mkF m 134 #[.val (.int p1), .val (.int p2), .val (.int p3), .val (.int (0 : Int32)), .val (.int (0 : Int32)), .val (.ref b6_57), .val (.ref b6_61), .val (.ref b267_404_431), .val (.int (1 : Int32))] [(.int (2 : Int32)), (.ref b6_61), (.ref b6_57), (.ref b267_404_431)])
      obtain ⟨_, _, ⟨T496, L496, k496, n496⟩, -, X496, ⟨Lc496, hQ496, l496, y496, z496⟩, st496⟩ := Jvm.LawKit.callS X494 hx (y := xm35) hown431 (mvT hZ431 (tw160 hw)) (mvT hZ431 (tw161 hw)) (mvT hZ431 (tw2 hw)) (mvT hZ431 (tw162 hw)) (by decide) (backOf (W := 0) (rm_SubjectSetTypeToStringPinLaw_ok_1 l Z a0 hw [] b267_404_431 b6_57 b6_61 (2 : Int32) b297_325_341_364_384_404_431 k297_325_341_364_384_404_431 (1 : Int32) ([(.int (35 : Int32))]) cs T431.heap n0 f439 P431_1 P431_2 f437 P431_3 Z_S_COMPACT_STRINGS f438 hcs (by decide)) hZ431 (tw162 hw) (tw2 hw) (by decide) (by decide)) (g := (mkF m 134 #[.val (.int p1), .val (.int p2), .val (.int p3), .val (.int (0 : Int32)), .val (.int (0 : Int32)), .val (.ref b6_57), .val (.ref b6_61), .val (.ref b267_404_431), .val (.int (1 : Int32))] [(.int (2 : Int32)), (.ref b6_61), (.ref b6_57), (.ref b267_404_431)])) rfl (by rw [hml]; rfl) (argsL := [(.ref b267_404_431), (.ref b6_57), (.ref b6_61), (.int (2 : Int32))]) (rest := []) (lenOf pd_24 rfl) rfl (by show 2 * 0 + _ ≤ _; exact Nat.le_of_eq rfl) (hb hby at_134) (fun _ _ => ⟨rfl, eq494, (by decide : 19 + 0 ≤ _), (by decide : 74 + 0 ≤ _)⟩)
      dsimp only [Pt.U, Pt.locs, Pt.cells, Pt.slots] at X496 l496 y496 z496 st496 hQ496
      subst l496 y496 z496
      obtain ⟨rfl, N496q, eq496⟩ := hQ496
      have N497 := Fr.app N495 N496q
      refine GoH.step (fun _ k => st496 _ (XS.ifNo X496.here hx rfl (hb hby at_137) rfl ((if0 _ _).trans (feq (by decide)).1) (XS.aload X496.here hx rfl (hb hby at_140) rfl rfl (XS.aload X496.here hx rfl (hb hby at_142) rfl rfl (XS.aload X496.here hx rfl (hb hby at_144) rfl rfl (XS.iconst X496.here hx rfl (hb hby at_146) k)))))) ?_
      show GoH p e below s _ _ _ T496 (mkF m 147 #[.val (.int p1), .val (.int p2), .val (.int p3), .val (.int (0 : Int32)), .val (.int (0 : Int32)), .val (.ref b6_57), .val (.ref b6_61), .val (.ref b267_404_431), .val (.int (1 : Int32))] [(.int (3 : Int32)), (.ref b6_61), (.ref b6_57), (.ref b267_404_431)])
      obtain ⟨_, _, ⟨T498, L498, k498, n498⟩, -, X498, ⟨Lc498, hQ498, l498, y498, z498⟩, st498⟩ := Jvm.LawKit.callS X496 hx (y := xm35) hown431 (mvT hZ431 (tw160 hw)) (mvT hZ431 (tw161 hw)) (mvT hZ431 (tw2 hw)) (mvT hZ431 (tw162 hw)) (by decide) (backOf (W := 0) (rm_SubjectSetTypeToStringPinLaw_ok_1 l Z a0 hw [] b267_404_431 b6_57 b6_61 (3 : Int32) b297_325_341_364_384_404_431 k297_325_341_364_384_404_431 (1 : Int32) ([(.int (35 : Int32))]) cs T431.heap n0 f439 P431_1 P431_2 f437 P431_3 Z_S_COMPACT_STRINGS f438 hcs (by decide)) hZ431 (tw162 hw) (tw2 hw) (by decide) (by decide)) (g := (mkF m 147 #[.val (.int p1), .val (.int p2), .val (.int p3), .val (.int (0 : Int32)), .val (.int (0 : Int32)), .val (.ref b6_57), .val (.ref b6_61), .val (.ref b267_404_431), .val (.int (1 : Int32))] [(.int (3 : Int32)), (.ref b6_61), (.ref b6_57), (.ref b267_404_431)])) rfl (by rw [hml]; rfl) (argsL := [(.ref b267_404_431), (.ref b6_57), (.ref b6_61), (.int (3 : Int32))]) (rest := []) (lenOf pd_24 rfl) rfl (by show 2 * 0 + _ ≤ _; exact Nat.le_of_eq rfl) (hb hby at_147) (fun _ _ => ⟨rfl, eq496, (by decide : 19 + 0 ≤ _), (by decide : 74 + 0 ≤ _)⟩)
      dsimp only [Pt.U, Pt.locs, Pt.cells, Pt.slots] at X498 l498 y498 z498 st498 hQ498
      subst l498 y498 z498
      obtain ⟨rfl, N498q, eq498⟩ := hQ498
      have N499 := Fr.app N497 N498q
      refine GoH.step (fun _ k => st498 _ (XS.ifNo X498.here hx rfl (hb hby at_150) rfl ((if0 _ _).trans (feq (by decide)).1) (XS.aload X498.here hx rfl (hb hby at_153) rfl rfl (XS.aload X498.here hx rfl (hb hby at_155) rfl rfl (XS.aload X498.here hx rfl (hb hby at_157) rfl rfl (XS.iconst X498.here hx rfl (hb hby at_159) k)))))) ?_
      show GoH p e below s _ _ _ T498 (mkF m 160 #[.val (.int p1), .val (.int p2), .val (.int p3), .val (.int (0 : Int32)), .val (.int (0 : Int32)), .val (.ref b6_57), .val (.ref b6_61), .val (.ref b267_404_431), .val (.int (1 : Int32))] [(.int (4 : Int32)), (.ref b6_61), (.ref b6_57), (.ref b267_404_431)])
      obtain ⟨_, _, ⟨T500, L500, k500, n500⟩, -, X500, ⟨Lc500, hQ500, l500, y500, z500⟩, st500⟩ := Jvm.LawKit.callS X498 hx (y := xm35) hown431 (mvT hZ431 (tw160 hw)) (mvT hZ431 (tw161 hw)) (mvT hZ431 (tw2 hw)) (mvT hZ431 (tw162 hw)) (by decide) (backOf (W := 0) (rm_SubjectSetTypeToStringPinLaw_ok_1 l Z a0 hw [] b267_404_431 b6_57 b6_61 (4 : Int32) b297_325_341_364_384_404_431 k297_325_341_364_384_404_431 (1 : Int32) ([(.int (35 : Int32))]) cs T431.heap n0 f439 P431_1 P431_2 f437 P431_3 Z_S_COMPACT_STRINGS f438 hcs (by decide)) hZ431 (tw162 hw) (tw2 hw) (by decide) (by decide)) (g := (mkF m 160 #[.val (.int p1), .val (.int p2), .val (.int p3), .val (.int (0 : Int32)), .val (.int (0 : Int32)), .val (.ref b6_57), .val (.ref b6_61), .val (.ref b267_404_431), .val (.int (1 : Int32))] [(.int (4 : Int32)), (.ref b6_61), (.ref b6_57), (.ref b267_404_431)])) rfl (by rw [hml]; rfl) (argsL := [(.ref b267_404_431), (.ref b6_57), (.ref b6_61), (.int (4 : Int32))]) (rest := []) (lenOf pd_24 rfl) rfl (by show 2 * 0 + _ ≤ _; exact Nat.le_of_eq rfl) (hb hby at_160) (fun _ _ => ⟨rfl, eq498, (by decide : 19 + 0 ≤ _), (by decide : 74 + 0 ≤ _)⟩)
      dsimp only [Pt.U, Pt.locs, Pt.cells, Pt.slots] at X500 l500 y500 z500 st500 hQ500
      subst l500 y500 z500
      obtain ⟨rfl, N500q, eq500⟩ := hQ500
      have N501 := Fr.app N499 N500q
      refine GoH.step (fun _ k => st500 _ (XS.ifNo X500.here hx rfl (hb hby at_163) rfl ((if0 _ _).trans (feq (by decide)).1) (XS.iconst X500.here hx rfl (hb hby at_166) (XS.goto X500.here hx rfl (pc0 := 167) (pc' := 171) rfl (hb hby at_167) (by decide) (by decide) k)))) ?_
      show GoH p e below s _ _ _ T500 (mkF m 171 #[.val (.int p1), .val (.int p2), .val (.int p3), .val (.int (0 : Int32)), .val (.int (0 : Int32)), .val (.ref b6_57), .val (.ref b6_61), .val (.ref b267_404_431), .val (.int (1 : Int32))] [(.int (1 : Int32))])
      exact GoH.retN X500 hS431 hx hlk (t := .boolean) Bd.returns (by simp) (hb hby at_171) eq500 (Nat.le_refl _) ⟨rfl, N501⟩ (f436.trans (CHv.at X500 hZ431 (own_EW hw) f436.1)) (by decide) (by decide)
    · show GoH p e below s _ _ _ T57 (mkF m 53 #[.val (.int p1), .val (.int p2), .val (.int p3), .val (.int (0 : Int32)), .val (.int (1 : Int32)), .val (.ref b6_57), .unset, .unset, .unset] [(.int c3), (.int c2), (.int (1 : Int32))])
      have f585 := (O0.keep K57 all0)
      have f586 := (Nat.le_trans Z0 K57.1)
      obtain ⟨_, _, ⟨T587, L587, k587, n587⟩, -, X587s, hs587, hg587, ⟨Lc587, hQ587, l587, y587, z587, ch587⟩, st587⟩ := callSS X57 hx (y := xm34) hown57 (mvT hZ57 (tw0 hw)) (mvT hZ57 (tw1 hw)) (mvT hZ57 (tw2 hw)) (mvT hZ57 (tw3 hw)) (by decide) (backOfSH (W := 0) (rm_SubjectSetTypeToStringPinLaw_mk_1 l Z a0 hw [] c2 c3 cs T57.heap n0 f586 Z_S_COMPACT_STRINGS f585 hcs hc2) hZ57 (tw3 hw) (tw2 hw) (by decide) (by decide) (own_EW hw) f59.1) (g := (mkF m 53 #[.val (.int p1), .val (.int p2), .val (.int p3), .val (.int (0 : Int32)), .val (.int (1 : Int32)), .val (.ref b6_57), .unset, .unset, .unset] [(.int c3), (.int c2), (.int (1 : Int32))])) rfl (by rw [hml]; rfl) (argsL := [(.int (1 : Int32)), (.int c2), (.int c3)]) (rest := []) (lenOf pd_3 rfl) rfl (by show 2 * 0 + _ ≤ _; exact Nat.le_of_eq rfl) (hb hby at_53) (fun _ _ => ⟨rfl, rfl, (by decide : 6 + 3 ≤ _), (by decide : 12 + 6 ≤ _)⟩)
      dsimp only [Pt.U, Pt.locs, Pt.cells, Pt.slots] at X587s hs587 hg587 l587 y587 z587 st587 hQ587 ch587
      subst l587 y587 z587
      obtain ⟨X587, hS587, hZ587, hown587⟩ := rebS hS57 (by exact (Nat.le_refl _)) X587s hs587 hg587 hZ57 hown57
      obtain ⟨b502_587, b516_532_561_572_587, k516_532_561_572_587, rfl, N587q, K587, P587_0, P587_1, P587_2, P587_3, P587_4, P587_5, P587_6⟩ := hQ587
      have N588 := Fr.app N58 N587q
      have f589 := f59.trans ch587
      refine GoH.step (fun _ k => st587.trans (XS.astore X587.here hx rfl (hb hby at_56) rfl rfl (l' := #[.val (.int p1), .val (.int p2), .val (.int p3), .val (.int (0 : Int32)), .val (.int (1 : Int32)), .val (.ref b6_57), .val (.ref b502_587), .unset, .unset]) rfl k)) ?_
      show GoH p e below s _ _ _ T587 (mkF m 58 #[.val (.int p1), .val (.int p2), .val (.int p3), .val (.int (0 : Int32)), .val (.int (1 : Int32)), .val (.ref b6_57), .val (.ref b502_587), .unset, .unset] [])
      obtain ⟨T590, h590, X590, e590, E590, A590, D590, -, st590⟩ := newO X587 hx hZ587 hown587 (tw26 hw) (tw27 hw) (tw28 hw) rfl (g := (mkF m 58 #[.val (.int p1), .val (.int p2), .val (.int p3), .val (.int (0 : Int32)), .val (.int (1 : Int32)), .val (.ref b6_57), .val (.ref b502_587), .unset, .unset] [])) rfl (hb hby at_58) (by decide) (by decide)
      obtain ⟨b590, g590⟩ : ∃ z, z = T587.heap.size := ⟨_, rfl⟩
      rw [← g590] at A590 D590 st590
      have f591 : Fld Z h590 b590 xs2 "type" xs21 .null := D590 (Or.inr (tw39 hw)) (ty := (.object xs25)) (by decide)
      have f592 : Fld Z h590 b590 xs2 "relation" xs21 .null := D590 (Or.inr (tw41 hw)) (ty := (.object xs25)) (by decide)
      refine GoH.step (fun _ k => st590 _ (XS.dup X590.here hx rfl (hb hby at_61) rfl rfl (XS.aload X590.here hx rfl (hb hby at_62) rfl rfl (XS.aload X590.here hx rfl (hb hby at_64) rfl rfl k)))) ?_
      show GoH p e below s _ _ _ T590 (mkF m 66 #[.val (.int p1), .val (.int p2), .val (.int p3), .val (.int (0 : Int32)), .val (.int (1 : Int32)), .val (.ref b6_57), .val (.ref b502_587), .unset, .unset] [(.ref b502_587), (.ref b6_57), (.ref b590), (.ref b590)])
      have f593 := (Nat.le_trans (Nat.le_trans f586 K587.1) E590.1)
      have f594 := (Nat.le_trans f586 K587.1)
      have g595 := Nat.le_trans f594 (Nat.le_of_eq g590.symm)
      obtain ⟨_, _, ⟨T596, L596, k596, n596⟩, -, X596, ⟨Lc596, hQ596, l596, y596, z596⟩, st596⟩ := X590.specialBack hx (y := xm31) rfl hown587 (mvT hZ587 (tw29 hw)) (mvT hZ587 (tw30 hw)) (mvT hZ587 (tw31 hw)) (by decide) (backOf (W := 1) (rm_SubjectSetType_new_0 l Z a0 hw [] b590 b6_57 b502_587 h590 n0 f593 A590 f591 g595 f592) hZ587 (tw31 hw) (tw28 hw) (by decide) (by decide)) (g := (mkF m 66 #[.val (.int p1), .val (.int p2), .val (.int p3), .val (.int (0 : Int32)), .val (.int (1 : Int32)), .val (.ref b6_57), .val (.ref b502_587), .unset, .unset] [(.ref b502_587), (.ref b6_57), (.ref b590), (.ref b590)])) rfl (by rw [hml]; rfl) (Steps.refl _) (a := b590) (argsL := [(.ref b6_57), (.ref b502_587)]) (rest := [(.ref b590)]) (lenOf pd_5 rfl) rfl (by show 2 * 0 + _ ≤ _; exact Nat.le_of_eq rfl) (hb hby at_66) (fun _ _ => ⟨rfl, e590, (by decide : 10 + 0 ≤ _), (by decide : 20 + 0 ≤ _)⟩)
      dsimp only [Pt.U, Pt.locs, Pt.cells, Pt.slots] at X596 l596 y596 z596 st596 hQ596
      subst l596 y596 z596
      obtain ⟨rfl, N596q, K596, P596_0, P596_1⟩ := hQ596
      have N597 := Fr.app N588 N596q
      refine GoH.step (fun _ k => st596.trans k) ?_
      show GoH p e below s _ _ _ T596 (mkF m 69 #[.val (.int p1), .val (.int p2), .val (.int p3), .val (.int (0 : Int32)), .val (.int (1 : Int32)), .val (.ref b6_57), .val (.ref b502_587), .unset, .unset] [(.ref b590)])
      have f598 := (((f585.keep K587 all0).ext E590).keep K596 (allS g595 all0))
      have f599 := (Nat.le_trans f593 K596.1)
      have f600 := (((P57_1.keep K587).ext E590).keep K596)
      have f601 := (P57_1.keep K587)
      have ne602 : b6_57 ≠ b590 := Nat.ne_of_lt (Nat.lt_of_lt_of_le f601.lt (Nat.le_of_eq g590.symm))
      have f603 := (((P57_2.keep K587 nin0).ext E590).keep K596 (ninS ne602 nin0))
      have f604 := (P57_4.keep K587 nin0)
      have ne605 : b13_41_49_57 ≠ b590 := Nat.ne_of_lt (Nat.lt_of_lt_of_le f604.lt (Nat.le_of_eq g590.symm))
      have f606 := (((P57_4.keep K587 nin0).ext E590).keep K596 (ninS ne605 nin0))
      have f607 := (((P57_3.keep K587 nin0).ext E590).keep K596 (ninS ne602 nin0))
      have f608 := ((P587_1.ext E590).keep K596)
      have ne609 : b502_587 ≠ b590 := Nat.ne_of_lt (Nat.lt_of_lt_of_le P587_1.lt (Nat.le_of_eq g590.symm))
      have f610 := ((P587_2.ext E590).keep K596 (ninS ne609 nin0))
      have ne611 : b516_532_561_572_587 ≠ b590 := Nat.ne_of_lt (Nat.lt_of_lt_of_le P587_5.lt (Nat.le_of_eq g590.symm))
      have f612 := ((P587_5.ext E590).keep K596 (ninS ne611 nin0))
      have f613 := ((P587_3.ext E590).keep K596 (ninS ne609 nin0))
      have f615 := (own_chK (own_chE f589 E590) K596 (sfS (Safe.exa hZ587.alike A590 (by decide) (by decide)) sf0))
      have f616 := (A590.keep K596)
      obtain ⟨cq614, kq614, q614a, q614b, q614c⟩ := isOf hZ587 rfl f616
      obtain ⟨_, _, ⟨T614, L614, k614, n614⟩, -, X614s, hs614, hg614, ⟨Lc614, hQ614, l614, y614, z614, ch614⟩, st614⟩ := X596.virtualBackS hx (y := xm22) (z := xm22) hown587 (mvT hZ587 (tw42 hw)) (mvT hZ587 (tw43 hw)) (notFace_of_selects (args := #[]) (mvT hZ587 (tw45 hw))) (mvT hZ587 (tw45 hw)) (mvT hZ587 (tw44 hw)) (by decide) (backOfSH (W := 0) (rm_SubjectSetType_toString_0 l Z a0 hw [] b590 cs b6_57 b13_41_49_57 kb13_41_49_57 (0 : Int32) ([]) b502_587 b516_532_561_572_587 k516_532_561_572_587 (1 : Int32) ([(.int (nar .byte ((nar .char c2).toInt8.toInt32)))]) T596.heap n0 f599 Z_S_COMPACT_STRINGS f598 hcs P596_0 f600 f603 f606 f607 (by decide) (by decide) (Nat.le_of_ble_eq_true rfl) (Nat.le_of_ble_eq_true rfl) (Nat.le_of_ble_eq_true rfl) (by decide) (by decide) (Nat.le_of_ble_eq_true rfl) (Nat.le_of_ble_eq_true rfl) P596_1 f608 f610 f612 f613 (by decide) (by decide) (by decide) (Nat.le_of_ble_eq_true rfl) (Nat.le_of_ble_eq_true rfl) (Nat.le_of_ble_eq_true rfl) (by decide) (by decide) (by decide) (Nat.le_of_ble_eq_true rfl) (by decide) (Nat.le_of_ble_eq_true rfl) (Nat.le_of_ble_eq_true rfl) (Nat.le_of_ble_eq_true rfl)) hZ587 (tw46 hw) (tw28 hw) (by decide) (by decide) (own_EW hw) f615.1) q614a q614c (g := (mkF m 69 #[.val (.int p1), .val (.int p2), .val (.int p3), .val (.int (0 : Int32)), .val (.int (1 : Int32)), .val (.ref b6_57), .val (.ref b502_587), .unset, .unset] [(.ref b590)])) rfl (by rw [hml]; rfl) (Steps.refl _) (argsL := []) (rest := []) (lenOf pd_21 rfl) rfl (by show 2 * 0 + _ ≤ _; exact Nat.le_of_eq rfl) (hb hby at_69) (fun _ _ => ⟨rfl, rfl, (by decide : 10 + 6 ≤ _), (by decide : 20 + 48 ≤ _)⟩)
      dsimp only [Pt.U, Pt.locs, Pt.cells, Pt.slots] at X614s hs614 hg614 l614 y614 z614 st614 hQ614 ch614
      subst l614 y614 z614
      have f617 := (Nat.le_trans (Nat.le_trans (Nat.le_refl _) E590.1) K596.1)
      obtain ⟨X614, hS614, hZ614, hown614⟩ := rebS hS587 (by exact f617) X614s hs614 hg614 hZ587 hown587
      obtain ⟨b267_404_614, b297_325_341_364_384_404_614, k297_325_341_364_384_404_614, rfl, N614q, K614, P614_0, P614_1, P614_2, P614_3, P614_4, P614_5, P614_6⟩ := hQ614
      have N618 := Fr.app N597 N614q
      have f619 := f615.trans ch614
      refine GoH.step (fun _ k => st614.trans k) ?_
      show GoH p e below s _ _ _ T614 (mkF m 72 #[.val (.int p1), .val (.int p2), .val (.int p3), .val (.int (0 : Int32)), .val (.int (1 : Int32)), .val (.ref b6_57), .val (.ref b502_587), .unset, .unset] [(.ref b267_404_614)])
      have f620 : Arv Z T614.heap b297_325_341_364_384_404_614 k297_325_341_364_384_404_614 .byte (2 : Int32) [(.int (35 : Int32)), (.int (nar .byte ((nar .char c2).toInt8.toInt32)))] (.int (0 : Int32)) := P614_5
      refine GoH.step (fun _ k => XS.astore X614.here hx rfl (hb hby at_72) rfl rfl (l' := #[.val (.int p1), .val (.int p2), .val (.int p3), .val (.int (0 : Int32)), .val (.int (1 : Int32)), .val (.ref b6_57), .val (.ref b502_587), .val (.ref b267_404_614), .unset]) rfl (XS.aload X614.here hx rfl (hb hby at_74) rfl rfl (XS.ifnonnullYes X614.here hx rfl (pc0 := 76) (pc' := 81) rfl (hb hby at_76) rfl (by decide) (by decide) (XS.iloadN X614.here hx rfl (hb hby at_81) rfl (XS.iconst X614.here hx rfl (hb hby at_82) (XS.iadd X614.here hx rfl (hb hby at_83) rfl (XS.iload X614.here hx rfl (hb hby at_84) rfl (XS.iadd X614.here hx rfl (hb hby at_86) rfl (XS.istore X614.here hx rfl (hb hby at_87) rfl (l' := #[.val (.int p1), .val (.int p2), .val (.int p3), .val (.int (0 : Int32)), .val (.int (1 : Int32)), .val (.ref b6_57), .val (.ref b502_587), .val (.ref b267_404_614), .val (.int (2 : Int32))]) rfl (XS.aload X614.here hx rfl (hb hby at_89) rfl rfl k)))))))))) ?_
      show GoH p e below s _ _ _ T614 (mkF m 91 #[.val (.int p1), .val (.int p2), .val (.int p3), .val (.int (0 : Int32)), .val (.int (1 : Int32)), .val (.ref b6_57), .val (.ref b502_587), .val (.ref b267_404_614), .val (.int (2 : Int32))] [(.ref b267_404_614)])
      have f621 := (f598.keep K614 all0)
      have f622 := (Nat.le_trans f599 K614.1)
      obtain ⟨cq623, kq623, q623a, q623b, q623c⟩ := isOf hZ614 rfl P614_1
      obtain ⟨_, _, ⟨T623, L623, k623, n623⟩, -, X623, ⟨Lc623, hQ623, l623, y623, z623⟩, st623⟩ := X614.virtualBack hx (y := xm19) (z := xm19) hown614 (mvT hZ614 (tw159 hw)) (mvT hZ614 (tw76 hw)) (notFace_of_selects (args := #[]) (mvT hZ614 (tw78 hw))) (mvT hZ614 (tw78 hw)) (mvT hZ614 (tw77 hw)) (by decide) (backOf (W := 0) (rm_String_length_0 l Z a0 hw [] b267_404_614 b297_325_341_364_384_404_614 k297_325_341_364_384_404_614 (2 : Int32) ([(.int (35 : Int32)), (.int (nar .byte ((nar .char c2).toInt8.toInt32)))]) cs T614.heap n0 f622 P614_2 f620 P614_1 Z_S_COMPACT_STRINGS f621 hcs P614_3) hZ614 (tw79 hw) (tw6 hw) (by decide) (by decide)) q623a q623c (g := (mkF m 91 #[.val (.int p1), .val (.int p2), .val (.int p3), .val (.int (0 : Int32)), .val (.int (1 : Int32)), .val (.ref b6_57), .val (.ref b502_587), .val (.ref b267_404_614), .val (.int (2 : Int32))] [(.ref b267_404_614)])) rfl (by rw [hml]; rfl) (Steps.refl _) (argsL := []) (rest := []) (lenOf pd_8 rfl) rfl (by show 2 * 0 + _ ≤ _; exact Nat.le_of_eq rfl) (hb hby at_91) (fun _ _ => ⟨rfl, rfl, (by decide : 16 + 0 ≤ _), (by decide : 68 + 0 ≤ _)⟩)
      dsimp only [Pt.U, Pt.locs, Pt.cells, Pt.slots] at X623 l623 y623 z623 st623 hQ623
      subst l623 y623 z623
      obtain ⟨rfl, N623q, eq623⟩ := hQ623
      have N624 := Fr.app N618 N623q
      refine GoH.step (fun _ k => st623.trans (XS.iload X623.here hx rfl (hb hby at_94) rfl (XS.icmpYes X623.here hx rfl (pc0 := 96) (pc' := 101) rfl (hb hby at_96) rfl (teq (by decide)).1 (by decide) (by decide) (XS.aload X623.here hx rfl (hb hby at_101) rfl rfl (XS.aload X623.here hx rfl (hb hby at_103) rfl rfl (XS.aload X623.here hx rfl (hb hby at_105) rfl rfl (XS.iconst X623.here hx rfl (hb hby at_107) k))))))) ?_
      show GoH p e below s _ _ _ T623 (mkF m 108 #[.val (.int p1), .val (.int p2), .val (.int p3), .val (.int (0 : Int32)), .val (.int (1 : Int32)), .val (.ref b6_57), .val (.ref b502_587), .val (.ref b267_404_614), .val (.int (2 : Int32))] [(.int (0 : Int32)), (.ref b502_587), (.ref b6_57), (.ref b267_404_614)])
      have f625 := (f600.keep K614)
      have f626 := (f603.keep K614 nin0)
      have f627 := (f606.keep K614 nin0)
      have f628 := (f607.keep K614 nin0)
      obtain ⟨_, _, ⟨T629, L629, k629, n629⟩, -, X629, ⟨Lc629, hQ629, l629, y629, z629⟩, st629⟩ := Jvm.LawKit.callS X623 hx (y := xm35) hown614 (mvT hZ614 (tw160 hw)) (mvT hZ614 (tw161 hw)) (mvT hZ614 (tw2 hw)) (mvT hZ614 (tw162 hw)) (by decide) (backOf (W := 0) (rm_SubjectSetTypeToStringPinLaw_ok_0 l Z a0 hw [] b267_404_614 b6_57 b502_587 (0 : Int32) b297_325_341_364_384_404_614 k297_325_341_364_384_404_614 (2 : Int32) ([(.int (35 : Int32)), (.int (nar .byte ((nar .char c2).toInt8.toInt32)))]) cs b13_41_49_57 kb13_41_49_57 (0 : Int32) ([]) fv (35 : Int32) T614.heap n0 f622 P614_1 P614_2 f620 P614_3 Z_S_COMPACT_STRINGS f621 hcs (by decide) f625 f626 f627 f628 (by decide) (by decide) Z_S_SIOOBE_FORMATTER hfv rfl (by decide) (by decide) (by decide)) hZ614 (tw162 hw) (tw2 hw) (by decide) (by decide)) (g := (mkF m 108 #[.val (.int p1), .val (.int p2), .val (.int p3), .val (.int (0 : Int32)), .val (.int (1 : Int32)), .val (.ref b6_57), .val (.ref b502_587), .val (.ref b267_404_614), .val (.int (2 : Int32))] [(.int (0 : Int32)), (.ref b502_587), (.ref b6_57), (.ref b267_404_614)])) rfl (by rw [hml]; rfl) (argsL := [(.ref b267_404_614), (.ref b6_57), (.ref b502_587), (.int (0 : Int32))]) (rest := []) (lenOf pd_24 rfl) rfl (by show 2 * 0 + _ ≤ _; exact Nat.le_of_eq rfl) (hb hby at_108) (fun _ _ => ⟨rfl, eq623, (by decide : 16 + 0 ≤ _), (by decide : 68 + 0 ≤ _)⟩)
      dsimp only [Pt.U, Pt.locs, Pt.cells, Pt.slots] at X629 l629 y629 z629 st629 hQ629
      subst l629 y629 z629
      obtain ⟨rfl, N629q, eq629⟩ := hQ629
      have N630 := Fr.app N624 N629q
      refine GoH.step (fun _ k => st629 _ (XS.ifNo X629.here hx rfl (hb hby at_111) rfl ((if0 _ _).trans (feq (by decide)).1) (XS.aload X629.here hx rfl (hb hby at_114) rfl rfl (XS.aload X629.here hx rfl (hb hby at_116) rfl rfl (XS.aload X629.here hx rfl (hb hby at_118) rfl rfl (XS.iconst X629.here hx rfl (hb hby at_120) k)))))) ?_
      show GoH p e below s _ _ _ T629 (mkF m 121 #[.val (.int p1), .val (.int p2), .val (.int p3), .val (.int (0 : Int32)), .val (.int (1 : Int32)), .val (.ref b6_57), .val (.ref b502_587), .val (.ref b267_404_614), .val (.int (2 : Int32))] [(.int (1 : Int32)), (.ref b502_587), (.ref b6_57), (.ref b267_404_614)])
      have f662 := (f608.keep K614)
      have f663 := (f613.keep K614 nin0)
      have f664 := (f610.keep K614 nin0)
      have f665 := (f612.keep K614 nin0)
      obtain ⟨_, _, ⟨T666, L666, k666, n666⟩, -, X666, ⟨Lc666, hQ666, l666, y666, z666⟩, st666⟩ := Jvm.LawKit.callS X629 hx (y := xm35) hown614 (mvT hZ614 (tw160 hw)) (mvT hZ614 (tw161 hw)) (mvT hZ614 (tw2 hw)) (mvT hZ614 (tw162 hw)) (by decide) (backOf (W := 0) (rm_SubjectSetTypeToStringPinLaw_ok_2 l Z a0 hw [] b267_404_614 b6_57 b502_587 (1 : Int32) b297_325_341_364_384_404_614 k297_325_341_364_384_404_614 (2 : Int32) ([(.int (35 : Int32)), (.int (nar .byte ((nar .char c2).toInt8.toInt32)))]) cs b13_41_49_57 kb13_41_49_57 (0 : Int32) ([]) b516_532_561_572_587 k516_532_561_572_587 (1 : Int32) ([(.int (nar .byte ((nar .char c2).toInt8.toInt32)))]) (nar .byte ((nar .char c2).toInt8.toInt32)) fv (nar .byte ((nar .char c2).toInt8.toInt32)) T614.heap n0 f622 P614_1 P614_2 f620 P614_3 Z_S_COMPACT_STRINGS f621 hcs (by decide) f625 f626 f627 f628 (by decide) (by decide) f662 f663 f664 f665 rfl Z_S_SIOOBE_FORMATTER hfv (by decide) (by decide) rfl (by decide) (by decide) rfl) hZ614 (tw162 hw) (tw2 hw) (by decide) (by decide)) (g := (mkF m 121 #[.val (.int p1), .val (.int p2), .val (.int p3), .val (.int (0 : Int32)), .val (.int (1 : Int32)), .val (.ref b6_57), .val (.ref b502_587), .val (.ref b267_404_614), .val (.int (2 : Int32))] [(.int (1 : Int32)), (.ref b502_587), (.ref b6_57), (.ref b267_404_614)])) rfl (by rw [hml]; rfl) (argsL := [(.ref b267_404_614), (.ref b6_57), (.ref b502_587), (.int (1 : Int32))]) (rest := []) (lenOf pd_24 rfl) rfl (by show 2 * 0 + _ ≤ _; exact Nat.le_of_eq rfl) (hb hby at_121) (fun _ _ => ⟨rfl, eq629, (by decide : 16 + 0 ≤ _), (by decide : 68 + 0 ≤ _)⟩)
      dsimp only [Pt.U, Pt.locs, Pt.cells, Pt.slots] at X666 l666 y666 z666 st666 hQ666
      subst l666 y666 z666
      obtain ⟨rfl, N666q, eq666⟩ := hQ666
      have N667 := Fr.app N630 N666q
      refine GoH.step (fun _ k => st666 _ (XS.ifNo X666.here hx rfl (hb hby at_124) rfl ((if0 _ _).trans (feq (by decide)).1) (XS.aload X666.here hx rfl (hb hby at_127) rfl rfl (XS.aload X666.here hx rfl (hb hby at_129) rfl rfl (XS.aload X666.here hx rfl (hb hby at_131) rfl rfl (XS.iconst X666.here hx rfl (hb hby at_133) k)))))) ?_
      show GoH p e below s _ _ _ T666 (mkF m 134 #[.val (.int p1), .val (.int p2), .val (.int p3), .val (.int (0 : Int32)), .val (.int (1 : Int32)), .val (.ref b6_57), .val (.ref b502_587), .val (.ref b267_404_614), .val (.int (2 : Int32))] [(.int (2 : Int32)), (.ref b502_587), (.ref b6_57), (.ref b267_404_614)])
      obtain ⟨_, _, ⟨T668, L668, k668, n668⟩, -, X668, ⟨Lc668, hQ668, l668, y668, z668⟩, st668⟩ := Jvm.LawKit.callS X666 hx (y := xm35) hown614 (mvT hZ614 (tw160 hw)) (mvT hZ614 (tw161 hw)) (mvT hZ614 (tw2 hw)) (mvT hZ614 (tw162 hw)) (by decide) (backOf (W := 0) (rm_SubjectSetTypeToStringPinLaw_ok_1 l Z a0 hw [] b267_404_614 b6_57 b502_587 (2 : Int32) b297_325_341_364_384_404_614 k297_325_341_364_384_404_614 (2 : Int32) ([(.int (35 : Int32)), (.int (nar .byte ((nar .char c2).toInt8.toInt32)))]) cs T614.heap n0 f622 P614_1 P614_2 f620 P614_3 Z_S_COMPACT_STRINGS f621 hcs (by decide)) hZ614 (tw162 hw) (tw2 hw) (by decide) (by decide)) (g := (mkF m 134 #[.val (.int p1), .val (.int p2), .val (.int p3), .val (.int (0 : Int32)), .val (.int (1 : Int32)), .val (.ref b6_57), .val (.ref b502_587), .val (.ref b267_404_614), .val (.int (2 : Int32))] [(.int (2 : Int32)), (.ref b502_587), (.ref b6_57), (.ref b267_404_614)])) rfl (by rw [hml]; rfl) (argsL := [(.ref b267_404_614), (.ref b6_57), (.ref b502_587), (.int (2 : Int32))]) (rest := []) (lenOf pd_24 rfl) rfl (by show 2 * 0 + _ ≤ _; exact Nat.le_of_eq rfl) (hb hby at_134) (fun _ _ => ⟨rfl, eq666, (by decide : 16 + 0 ≤ _), (by decide : 68 + 0 ≤ _)⟩)
      dsimp only [Pt.U, Pt.locs, Pt.cells, Pt.slots] at X668 l668 y668 z668 st668 hQ668
      subst l668 y668 z668
      obtain ⟨rfl, N668q, eq668⟩ := hQ668
      have N669 := Fr.app N667 N668q
      refine GoH.step (fun _ k => st668 _ (XS.ifNo X668.here hx rfl (hb hby at_137) rfl ((if0 _ _).trans (feq (by decide)).1) (XS.aload X668.here hx rfl (hb hby at_140) rfl rfl (XS.aload X668.here hx rfl (hb hby at_142) rfl rfl (XS.aload X668.here hx rfl (hb hby at_144) rfl rfl (XS.iconst X668.here hx rfl (hb hby at_146) k)))))) ?_
      show GoH p e below s _ _ _ T668 (mkF m 147 #[.val (.int p1), .val (.int p2), .val (.int p3), .val (.int (0 : Int32)), .val (.int (1 : Int32)), .val (.ref b6_57), .val (.ref b502_587), .val (.ref b267_404_614), .val (.int (2 : Int32))] [(.int (3 : Int32)), (.ref b502_587), (.ref b6_57), (.ref b267_404_614)])
      obtain ⟨_, _, ⟨T670, L670, k670, n670⟩, -, X670, ⟨Lc670, hQ670, l670, y670, z670⟩, st670⟩ := Jvm.LawKit.callS X668 hx (y := xm35) hown614 (mvT hZ614 (tw160 hw)) (mvT hZ614 (tw161 hw)) (mvT hZ614 (tw2 hw)) (mvT hZ614 (tw162 hw)) (by decide) (backOf (W := 0) (rm_SubjectSetTypeToStringPinLaw_ok_1 l Z a0 hw [] b267_404_614 b6_57 b502_587 (3 : Int32) b297_325_341_364_384_404_614 k297_325_341_364_384_404_614 (2 : Int32) ([(.int (35 : Int32)), (.int (nar .byte ((nar .char c2).toInt8.toInt32)))]) cs T614.heap n0 f622 P614_1 P614_2 f620 P614_3 Z_S_COMPACT_STRINGS f621 hcs (by decide)) hZ614 (tw162 hw) (tw2 hw) (by decide) (by decide)) (g := (mkF m 147 #[.val (.int p1), .val (.int p2), .val (.int p3), .val (.int (0 : Int32)), .val (.int (1 : Int32)), .val (.ref b6_57), .val (.ref b502_587), .val (.ref b267_404_614), .val (.int (2 : Int32))] [(.int (3 : Int32)), (.ref b502_587), (.ref b6_57), (.ref b267_404_614)])) rfl (by rw [hml]; rfl) (argsL := [(.ref b267_404_614), (.ref b6_57), (.ref b502_587), (.int (3 : Int32))]) (rest := []) (lenOf pd_24 rfl) rfl (by show 2 * 0 + _ ≤ _; exact Nat.le_of_eq rfl) (hb hby at_147) (fun _ _ => ⟨rfl, eq668, (by decide : 16 + 0 ≤ _), (by decide : 68 + 0 ≤ _)⟩)
      dsimp only [Pt.U, Pt.locs, Pt.cells, Pt.slots] at X670 l670 y670 z670 st670 hQ670
      subst l670 y670 z670
      obtain ⟨rfl, N670q, eq670⟩ := hQ670
      have N671 := Fr.app N669 N670q
      refine GoH.step (fun _ k => st670 _ (XS.ifNo X670.here hx rfl (hb hby at_150) rfl ((if0 _ _).trans (feq (by decide)).1) (XS.aload X670.here hx rfl (hb hby at_153) rfl rfl (XS.aload X670.here hx rfl (hb hby at_155) rfl rfl (XS.aload X670.here hx rfl (hb hby at_157) rfl rfl (XS.iconst X670.here hx rfl (hb hby at_159) k)))))) ?_
      show GoH p e below s _ _ _ T670 (mkF m 160 #[.val (.int p1), .val (.int p2), .val (.int p3), .val (.int (0 : Int32)), .val (.int (1 : Int32)), .val (.ref b6_57), .val (.ref b502_587), .val (.ref b267_404_614), .val (.int (2 : Int32))] [(.int (4 : Int32)), (.ref b502_587), (.ref b6_57), (.ref b267_404_614)])
      obtain ⟨_, _, ⟨T672, L672, k672, n672⟩, -, X672, ⟨Lc672, hQ672, l672, y672, z672⟩, st672⟩ := Jvm.LawKit.callS X670 hx (y := xm35) hown614 (mvT hZ614 (tw160 hw)) (mvT hZ614 (tw161 hw)) (mvT hZ614 (tw2 hw)) (mvT hZ614 (tw162 hw)) (by decide) (backOf (W := 0) (rm_SubjectSetTypeToStringPinLaw_ok_1 l Z a0 hw [] b267_404_614 b6_57 b502_587 (4 : Int32) b297_325_341_364_384_404_614 k297_325_341_364_384_404_614 (2 : Int32) ([(.int (35 : Int32)), (.int (nar .byte ((nar .char c2).toInt8.toInt32)))]) cs T614.heap n0 f622 P614_1 P614_2 f620 P614_3 Z_S_COMPACT_STRINGS f621 hcs (by decide)) hZ614 (tw162 hw) (tw2 hw) (by decide) (by decide)) (g := (mkF m 160 #[.val (.int p1), .val (.int p2), .val (.int p3), .val (.int (0 : Int32)), .val (.int (1 : Int32)), .val (.ref b6_57), .val (.ref b502_587), .val (.ref b267_404_614), .val (.int (2 : Int32))] [(.int (4 : Int32)), (.ref b502_587), (.ref b6_57), (.ref b267_404_614)])) rfl (by rw [hml]; rfl) (argsL := [(.ref b267_404_614), (.ref b6_57), (.ref b502_587), (.int (4 : Int32))]) (rest := []) (lenOf pd_24 rfl) rfl (by show 2 * 0 + _ ≤ _; exact Nat.le_of_eq rfl) (hb hby at_160) (fun _ _ => ⟨rfl, eq670, (by decide : 16 + 0 ≤ _), (by decide : 68 + 0 ≤ _)⟩)
      dsimp only [Pt.U, Pt.locs, Pt.cells, Pt.slots] at X672 l672 y672 z672 st672 hQ672
      subst l672 y672 z672
      obtain ⟨rfl, N672q, eq672⟩ := hQ672
      have N673 := Fr.app N671 N672q
      refine GoH.step (fun _ k => st672 _ (XS.ifNo X672.here hx rfl (hb hby at_163) rfl ((if0 _ _).trans (feq (by decide)).1) (XS.iconst X672.here hx rfl (hb hby at_166) (XS.goto X672.here hx rfl (pc0 := 167) (pc' := 171) rfl (hb hby at_167) (by decide) (by decide) k)))) ?_
      show GoH p e below s _ _ _ T672 (mkF m 171 #[.val (.int p1), .val (.int p2), .val (.int p3), .val (.int (0 : Int32)), .val (.int (1 : Int32)), .val (.ref b6_57), .val (.ref b502_587), .val (.ref b267_404_614), .val (.int (2 : Int32))] [(.int (1 : Int32))])
      exact GoH.retN X672 hS614 hx hlk (t := .boolean) Bd.returns (by simp) (hb hby at_171) eq672 (Nat.le_refl _) ⟨rfl, N673⟩ (f619.trans (CHv.at X672 hZ614 (own_EW hw) f619.1)) (by decide) (by decide)
    · show GoH p e below s _ _ _ T57 (mkF m 53 #[.val (.int p1), .val (.int p2), .val (.int p3), .val (.int (0 : Int32)), .val (.int (2 : Int32)), .val (.ref b6_57), .unset, .unset, .unset] [(.int c3), (.int c2), (.int (2 : Int32))])
      have f768 := (O0.keep K57 all0)
      have f769 := (Nat.le_trans Z0 K57.1)
      obtain ⟨_, _, ⟨T770, L770, k770, n770⟩, -, X770s, hs770, hg770, ⟨Lc770, hQ770, l770, y770, z770, ch770⟩, st770⟩ := callSS X57 hx (y := xm34) hown57 (mvT hZ57 (tw0 hw)) (mvT hZ57 (tw1 hw)) (mvT hZ57 (tw2 hw)) (mvT hZ57 (tw3 hw)) (by decide) (backOfSH (W := 0) (rm_SubjectSetTypeToStringPinLaw_mk_2 l Z a0 hw [] c2 c3 cs T57.heap n0 f769 Z_S_COMPACT_STRINGS f768 hcs hc2 hc3) hZ57 (tw3 hw) (tw2 hw) (by decide) (by decide) (own_EW hw) f59.1) (g := (mkF m 53 #[.val (.int p1), .val (.int p2), .val (.int p3), .val (.int (0 : Int32)), .val (.int (2 : Int32)), .val (.ref b6_57), .unset, .unset, .unset] [(.int c3), (.int c2), (.int (2 : Int32))])) rfl (by rw [hml]; rfl) (argsL := [(.int (2 : Int32)), (.int c2), (.int c3)]) (rest := []) (lenOf pd_3 rfl) rfl (by show 2 * 0 + _ ≤ _; exact Nat.le_of_eq rfl) (hb hby at_53) (fun _ _ => ⟨rfl, rfl, (by decide : 6 + 3 ≤ _), (by decide : 12 + 8 ≤ _)⟩)
      dsimp only [Pt.U, Pt.locs, Pt.cells, Pt.slots] at X770s hs770 hg770 l770 y770 z770 st770 hQ770 ch770
      subst l770 y770 z770
      obtain ⟨X770, hS770, hZ770, hown770⟩ := rebS hS57 (by exact (Nat.le_refl _)) X770s hs770 hg770 hZ57 hown57
      obtain ⟨b674_770, b692_714_744_755_770, k692_714_744_755_770, rfl, N770q, K770, P770_0, P770_1, P770_2, P770_3, P770_4, P770_5, P770_6⟩ := hQ770
      have N771 := Fr.app N58 N770q
      have f772 := f59.trans ch770
      refine GoH.step (fun _ k => st770.trans (XS.astore X770.here hx rfl (hb hby at_56) rfl rfl (l' := #[.val (.int p1), .val (.int p2), .val (.int p3), .val (.int (0 : Int32)), .val (.int (2 : Int32)), .val (.ref b6_57), .val (.ref b674_770), .unset, .unset]) rfl k)) ?_
      show GoH p e below s _ _ _ T770 (mkF m 58 #[.val (.int p1), .val (.int p2), .val (.int p3), .val (.int (0 : Int32)), .val (.int (2 : Int32)), .val (.ref b6_57), .val (.ref b674_770), .unset, .unset] [])
      obtain ⟨T773, h773, X773, e773, E773, A773, D773, -, st773⟩ := newO X770 hx hZ770 hown770 (tw26 hw) (tw27 hw) (tw28 hw) rfl (g := (mkF m 58 #[.val (.int p1), .val (.int p2), .val (.int p3), .val (.int (0 : Int32)), .val (.int (2 : Int32)), .val (.ref b6_57), .val (.ref b674_770), .unset, .unset] [])) rfl (hb hby at_58) (by decide) (by decide)
      obtain ⟨b773, g773⟩ : ∃ z, z = T770.heap.size := ⟨_, rfl⟩
      rw [← g773] at A773 D773 st773
      have f774 : Fld Z h773 b773 xs2 "type" xs21 .null := D773 (Or.inr (tw39 hw)) (ty := (.object xs25)) (by decide)
      have f775 : Fld Z h773 b773 xs2 "relation" xs21 .null := D773 (Or.inr (tw41 hw)) (ty := (.object xs25)) (by decide)
      refine GoH.step (fun _ k => st773 _ (XS.dup X773.here hx rfl (hb hby at_61) rfl rfl (XS.aload X773.here hx rfl (hb hby at_62) rfl rfl (XS.aload X773.here hx rfl (hb hby at_64) rfl rfl k)))) ?_
      show GoH p e below s _ _ _ T773 (mkF m 66 #[.val (.int p1), .val (.int p2), .val (.int p3), .val (.int (0 : Int32)), .val (.int (2 : Int32)), .val (.ref b6_57), .val (.ref b674_770), .unset, .unset] [(.ref b674_770), (.ref b6_57), (.ref b773), (.ref b773)])
      have f776 := (Nat.le_trans (Nat.le_trans f769 K770.1) E773.1)
      have f777 := (Nat.le_trans f769 K770.1)
      have g778 := Nat.le_trans f777 (Nat.le_of_eq g773.symm)
      obtain ⟨_, _, ⟨T779, L779, k779, n779⟩, -, X779, ⟨Lc779, hQ779, l779, y779, z779⟩, st779⟩ := X773.specialBack hx (y := xm31) rfl hown770 (mvT hZ770 (tw29 hw)) (mvT hZ770 (tw30 hw)) (mvT hZ770 (tw31 hw)) (by decide) (backOf (W := 1) (rm_SubjectSetType_new_0 l Z a0 hw [] b773 b6_57 b674_770 h773 n0 f776 A773 f774 g778 f775) hZ770 (tw31 hw) (tw28 hw) (by decide) (by decide)) (g := (mkF m 66 #[.val (.int p1), .val (.int p2), .val (.int p3), .val (.int (0 : Int32)), .val (.int (2 : Int32)), .val (.ref b6_57), .val (.ref b674_770), .unset, .unset] [(.ref b674_770), (.ref b6_57), (.ref b773), (.ref b773)])) rfl (by rw [hml]; rfl) (Steps.refl _) (a := b773) (argsL := [(.ref b6_57), (.ref b674_770)]) (rest := [(.ref b773)]) (lenOf pd_5 rfl) rfl (by show 2 * 0 + _ ≤ _; exact Nat.le_of_eq rfl) (hb hby at_66) (fun _ _ => ⟨rfl, e773, (by decide : 10 + 0 ≤ _), (by decide : 22 + 0 ≤ _)⟩)
      dsimp only [Pt.U, Pt.locs, Pt.cells, Pt.slots] at X779 l779 y779 z779 st779 hQ779
      subst l779 y779 z779
      obtain ⟨rfl, N779q, K779, P779_0, P779_1⟩ := hQ779
      have N780 := Fr.app N771 N779q
      refine GoH.step (fun _ k => st779.trans k) ?_
      show GoH p e below s _ _ _ T779 (mkF m 69 #[.val (.int p1), .val (.int p2), .val (.int p3), .val (.int (0 : Int32)), .val (.int (2 : Int32)), .val (.ref b6_57), .val (.ref b674_770), .unset, .unset] [(.ref b773)])
      have f781 := (((f768.keep K770 all0).ext E773).keep K779 (allS g778 all0))
      have f782 := (Nat.le_trans f776 K779.1)
      have f783 := (((P57_1.keep K770).ext E773).keep K779)
      have f784 := (P57_1.keep K770)
      have ne785 : b6_57 ≠ b773 := Nat.ne_of_lt (Nat.lt_of_lt_of_le f784.lt (Nat.le_of_eq g773.symm))
      have f786 := (((P57_2.keep K770 nin0).ext E773).keep K779 (ninS ne785 nin0))
      have f787 := (P57_4.keep K770 nin0)
      have ne788 : b13_41_49_57 ≠ b773 := Nat.ne_of_lt (Nat.lt_of_lt_of_le f787.lt (Nat.le_of_eq g773.symm))
      have f789 := (((P57_4.keep K770 nin0).ext E773).keep K779 (ninS ne788 nin0))
      have f790 := (((P57_3.keep K770 nin0).ext E773).keep K779 (ninS ne785 nin0))
      have f791 := ((P770_1.ext E773).keep K779)
      have ne792 : b674_770 ≠ b773 := Nat.ne_of_lt (Nat.lt_of_lt_of_le P770_1.lt (Nat.le_of_eq g773.symm))
      have f793 := ((P770_2.ext E773).keep K779 (ninS ne792 nin0))
      have ne794 : b692_714_744_755_770 ≠ b773 := Nat.ne_of_lt (Nat.lt_of_lt_of_le P770_5.lt (Nat.le_of_eq g773.symm))
      have f795 := ((P770_5.ext E773).keep K779 (ninS ne794 nin0))
      have f796 := ((P770_3.ext E773).keep K779 (ninS ne792 nin0))
      have f798 := (own_chK (own_chE f772 E773) K779 (sfS (Safe.exa hZ770.alike A773 (by decide) (by decide)) sf0))
      have f799 := (A773.keep K779)
      obtain ⟨cq797, kq797, q797a, q797b, q797c⟩ := isOf hZ770 rfl f799
      obtain ⟨_, _, ⟨T797, L797, k797, n797⟩, -, X797s, hs797, hg797, ⟨Lc797, hQ797, l797, y797, z797, ch797⟩, st797⟩ := X779.virtualBackS hx (y := xm22) (z := xm22) hown770 (mvT hZ770 (tw42 hw)) (mvT hZ770 (tw43 hw)) (notFace_of_selects (args := #[]) (mvT hZ770 (tw45 hw))) (mvT hZ770 (tw45 hw)) (mvT hZ770 (tw44 hw)) (by decide) (backOfSH (W := 0) (rm_SubjectSetType_toString_0 l Z a0 hw [] b773 cs b6_57 b13_41_49_57 kb13_41_49_57 (0 : Int32) ([]) b674_770 b692_714_744_755_770 k692_714_744_755_770 (2 : Int32) ([(.int (nar .byte ((nar .char c2).toInt8.toInt32))), (.int (nar .byte ((nar .char c3).toInt8.toInt32)))]) T779.heap n0 f782 Z_S_COMPACT_STRINGS f781 hcs P779_0 f783 f786 f789 f790 (by decide) (by decide) (Nat.le_of_ble_eq_true rfl) (Nat.le_of_ble_eq_true rfl) (Nat.le_of_ble_eq_true rfl) (by decide) (by decide) (Nat.le_of_ble_eq_true rfl) (Nat.le_of_ble_eq_true rfl) P779_1 f791 f793 f795 f796 (by decide) (by decide) (by decide) (Nat.le_of_ble_eq_true rfl) (Nat.le_of_ble_eq_true rfl) (Nat.le_of_ble_eq_true rfl) (by decide) (by decide) (by decide) (Nat.le_of_ble_eq_true rfl) (by decide) (Nat.le_of_ble_eq_true rfl) (Nat.le_of_ble_eq_true rfl) (Nat.le_of_ble_eq_true rfl)) hZ770 (tw46 hw) (tw28 hw) (by decide) (by decide) (own_EW hw) f798.1) q797a q797c (g := (mkF m 69 #[.val (.int p1), .val (.int p2), .val (.int p3), .val (.int (0 : Int32)), .val (.int (2 : Int32)), .val (.ref b6_57), .val (.ref b674_770), .unset, .unset] [(.ref b773)])) rfl (by rw [hml]; rfl) (Steps.refl _) (argsL := []) (rest := []) (lenOf pd_21 rfl) rfl (by show 2 * 0 + _ ≤ _; exact Nat.le_of_eq rfl) (hb hby at_69) (fun _ _ => ⟨rfl, rfl, (by decide : 10 + 6 ≤ _), (by decide : 22 + 48 ≤ _)⟩)
      dsimp only [Pt.U, Pt.locs, Pt.cells, Pt.slots] at X797s hs797 hg797 l797 y797 z797 st797 hQ797 ch797
      subst l797 y797 z797
      have f800 := (Nat.le_trans (Nat.le_trans (Nat.le_refl _) E773.1) K779.1)
      obtain ⟨X797, hS797, hZ797, hown797⟩ := rebS hS770 (by exact f800) X797s hs797 hg797 hZ770 hown770
      obtain ⟨b267_404_797, b297_325_341_364_384_404_797, k297_325_341_364_384_404_797, rfl, N797q, K797, P797_0, P797_1, P797_2, P797_3, P797_4, P797_5, P797_6⟩ := hQ797
      have N801 := Fr.app N780 N797q
      have f802 := f798.trans ch797
      refine GoH.step (fun _ k => st797.trans k) ?_
      show GoH p e below s _ _ _ T797 (mkF m 72 #[.val (.int p1), .val (.int p2), .val (.int p3), .val (.int (0 : Int32)), .val (.int (2 : Int32)), .val (.ref b6_57), .val (.ref b674_770), .unset, .unset] [(.ref b267_404_797)])
      have f803 : Arv Z T797.heap b297_325_341_364_384_404_797 k297_325_341_364_384_404_797 .byte (3 : Int32) [(.int (35 : Int32)), (.int (nar .byte ((nar .char c2).toInt8.toInt32))), (.int (nar .byte ((nar .char c3).toInt8.toInt32)))] (.int (0 : Int32)) := P797_5
      refine GoH.step (fun _ k => XS.astore X797.here hx rfl (hb hby at_72) rfl rfl (l' := #[.val (.int p1), .val (.int p2), .val (.int p3), .val (.int (0 : Int32)), .val (.int (2 : Int32)), .val (.ref b6_57), .val (.ref b674_770), .val (.ref b267_404_797), .unset]) rfl (XS.aload X797.here hx rfl (hb hby at_74) rfl rfl (XS.ifnonnullYes X797.here hx rfl (pc0 := 76) (pc' := 81) rfl (hb hby at_76) rfl (by decide) (by decide) (XS.iloadN X797.here hx rfl (hb hby at_81) rfl (XS.iconst X797.here hx rfl (hb hby at_82) (XS.iadd X797.here hx rfl (hb hby at_83) rfl (XS.iload X797.here hx rfl (hb hby at_84) rfl (XS.iadd X797.here hx rfl (hb hby at_86) rfl (XS.istore X797.here hx rfl (hb hby at_87) rfl (l' := #[.val (.int p1), .val (.int p2), .val (.int p3), .val (.int (0 : Int32)), .val (.int (2 : Int32)), .val (.ref b6_57), .val (.ref b674_770), .val (.ref b267_404_797), .val (.int (3 : Int32))]) rfl (XS.aload X797.here hx rfl (hb hby at_89) rfl rfl k)))))))))) ?_
      show GoH p e below s _ _ _ T797 (mkF m 91 #[.val (.int p1), .val (.int p2), .val (.int p3), .val (.int (0 : Int32)), .val (.int (2 : Int32)), .val (.ref b6_57), .val (.ref b674_770), .val (.ref b267_404_797), .val (.int (3 : Int32))] [(.ref b267_404_797)])
      have f804 := (f781.keep K797 all0)
      have f805 := (Nat.le_trans f782 K797.1)
      obtain ⟨cq806, kq806, q806a, q806b, q806c⟩ := isOf hZ797 rfl P797_1
      obtain ⟨_, _, ⟨T806, L806, k806, n806⟩, -, X806, ⟨Lc806, hQ806, l806, y806, z806⟩, st806⟩ := X797.virtualBack hx (y := xm19) (z := xm19) hown797 (mvT hZ797 (tw159 hw)) (mvT hZ797 (tw76 hw)) (notFace_of_selects (args := #[]) (mvT hZ797 (tw78 hw))) (mvT hZ797 (tw78 hw)) (mvT hZ797 (tw77 hw)) (by decide) (backOf (W := 0) (rm_String_length_0 l Z a0 hw [] b267_404_797 b297_325_341_364_384_404_797 k297_325_341_364_384_404_797 (3 : Int32) ([(.int (35 : Int32)), (.int (nar .byte ((nar .char c2).toInt8.toInt32))), (.int (nar .byte ((nar .char c3).toInt8.toInt32)))]) cs T797.heap n0 f805 P797_2 f803 P797_1 Z_S_COMPACT_STRINGS f804 hcs P797_3) hZ797 (tw79 hw) (tw6 hw) (by decide) (by decide)) q806a q806c (g := (mkF m 91 #[.val (.int p1), .val (.int p2), .val (.int p3), .val (.int (0 : Int32)), .val (.int (2 : Int32)), .val (.ref b6_57), .val (.ref b674_770), .val (.ref b267_404_797), .val (.int (3 : Int32))] [(.ref b267_404_797)])) rfl (by rw [hml]; rfl) (Steps.refl _) (argsL := []) (rest := []) (lenOf pd_8 rfl) rfl (by show 2 * 0 + _ ≤ _; exact Nat.le_of_eq rfl) (hb hby at_91) (fun _ _ => ⟨rfl, rfl, (by decide : 16 + 0 ≤ _), (by decide : 70 + 0 ≤ _)⟩)
      dsimp only [Pt.U, Pt.locs, Pt.cells, Pt.slots] at X806 l806 y806 z806 st806 hQ806
      subst l806 y806 z806
      obtain ⟨rfl, N806q, eq806⟩ := hQ806
      have N807 := Fr.app N801 N806q
      refine GoH.step (fun _ k => st806.trans (XS.iload X806.here hx rfl (hb hby at_94) rfl (XS.icmpYes X806.here hx rfl (pc0 := 96) (pc' := 101) rfl (hb hby at_96) rfl (teq (by decide)).1 (by decide) (by decide) (XS.aload X806.here hx rfl (hb hby at_101) rfl rfl (XS.aload X806.here hx rfl (hb hby at_103) rfl rfl (XS.aload X806.here hx rfl (hb hby at_105) rfl rfl (XS.iconst X806.here hx rfl (hb hby at_107) k))))))) ?_
      show GoH p e below s _ _ _ T806 (mkF m 108 #[.val (.int p1), .val (.int p2), .val (.int p3), .val (.int (0 : Int32)), .val (.int (2 : Int32)), .val (.ref b6_57), .val (.ref b674_770), .val (.ref b267_404_797), .val (.int (3 : Int32))] [(.int (0 : Int32)), (.ref b674_770), (.ref b6_57), (.ref b267_404_797)])
      have f808 := (f783.keep K797)
      have f809 := (f786.keep K797 nin0)
      have f810 := (f789.keep K797 nin0)
      have f811 := (f790.keep K797 nin0)
      obtain ⟨_, _, ⟨T812, L812, k812, n812⟩, -, X812, ⟨Lc812, hQ812, l812, y812, z812⟩, st812⟩ := Jvm.LawKit.callS X806 hx (y := xm35) hown797 (mvT hZ797 (tw160 hw)) (mvT hZ797 (tw161 hw)) (mvT hZ797 (tw2 hw)) (mvT hZ797 (tw162 hw)) (by decide) (backOf (W := 0) (rm_SubjectSetTypeToStringPinLaw_ok_0 l Z a0 hw [] b267_404_797 b6_57 b674_770 (0 : Int32) b297_325_341_364_384_404_797 k297_325_341_364_384_404_797 (3 : Int32) ([(.int (35 : Int32)), (.int (nar .byte ((nar .char c2).toInt8.toInt32))), (.int (nar .byte ((nar .char c3).toInt8.toInt32)))]) cs b13_41_49_57 kb13_41_49_57 (0 : Int32) ([]) fv (35 : Int32) T797.heap n0 f805 P797_1 P797_2 f803 P797_3 Z_S_COMPACT_STRINGS f804 hcs (by decide) f808 f809 f810 f811 (by decide) (by decide) Z_S_SIOOBE_FORMATTER hfv rfl (by decide) (by decide) (by decide)) hZ797 (tw162 hw) (tw2 hw) (by decide) (by decide)) (g := (mkF m 108 #[.val (.int p1), .val (.int p2), .val (.int p3), .val (.int (0 : Int32)), .val (.int (2 : Int32)), .val (.ref b6_57), .val (.ref b674_770), .val (.ref b267_404_797), .val (.int (3 : Int32))] [(.int (0 : Int32)), (.ref b674_770), (.ref b6_57), (.ref b267_404_797)])) rfl (by rw [hml]; rfl) (argsL := [(.ref b267_404_797), (.ref b6_57), (.ref b674_770), (.int (0 : Int32))]) (rest := []) (lenOf pd_24 rfl) rfl (by show 2 * 0 + _ ≤ _; exact Nat.le_of_eq rfl) (hb hby at_108) (fun _ _ => ⟨rfl, eq806, (by decide : 16 + 0 ≤ _), (by decide : 70 + 0 ≤ _)⟩)
      dsimp only [Pt.U, Pt.locs, Pt.cells, Pt.slots] at X812 l812 y812 z812 st812 hQ812
      subst l812 y812 z812
      obtain ⟨rfl, N812q, eq812⟩ := hQ812
      have N813 := Fr.app N807 N812q
      refine GoH.step (fun _ k => st812 _ (XS.ifNo X812.here hx rfl (hb hby at_111) rfl ((if0 _ _).trans (feq (by decide)).1) (XS.aload X812.here hx rfl (hb hby at_114) rfl rfl (XS.aload X812.here hx rfl (hb hby at_116) rfl rfl (XS.aload X812.here hx rfl (hb hby at_118) rfl rfl (XS.iconst X812.here hx rfl (hb hby at_120) k)))))) ?_
      show GoH p e below s _ _ _ T812 (mkF m 121 #[.val (.int p1), .val (.int p2), .val (.int p3), .val (.int (0 : Int32)), .val (.int (2 : Int32)), .val (.ref b6_57), .val (.ref b674_770), .val (.ref b267_404_797), .val (.int (3 : Int32))] [(.int (1 : Int32)), (.ref b674_770), (.ref b6_57), (.ref b267_404_797)])
      have f814 := (f791.keep K797)
      have f815 := (f796.keep K797 nin0)
      have f816 := (f793.keep K797 nin0)
      have f817 := (f795.keep K797 nin0)
      obtain ⟨_, _, ⟨T818, L818, k818, n818⟩, -, X818, ⟨Lc818, hQ818, l818, y818, z818⟩, st818⟩ := Jvm.LawKit.callS X812 hx (y := xm35) hown797 (mvT hZ797 (tw160 hw)) (mvT hZ797 (tw161 hw)) (mvT hZ797 (tw2 hw)) (mvT hZ797 (tw162 hw)) (by decide) (backOf (W := 0) (rm_SubjectSetTypeToStringPinLaw_ok_2 l Z a0 hw [] b267_404_797 b6_57 b674_770 (1 : Int32) b297_325_341_364_384_404_797 k297_325_341_364_384_404_797 (3 : Int32) ([(.int (35 : Int32)), (.int (nar .byte ((nar .char c2).toInt8.toInt32))), (.int (nar .byte ((nar .char c3).toInt8.toInt32)))]) cs b13_41_49_57 kb13_41_49_57 (0 : Int32) ([]) b692_714_744_755_770 k692_714_744_755_770 (2 : Int32) ([(.int (nar .byte ((nar .char c2).toInt8.toInt32))), (.int (nar .byte ((nar .char c3).toInt8.toInt32)))]) (nar .byte ((nar .char c2).toInt8.toInt32)) fv (nar .byte ((nar .char c2).toInt8.toInt32)) T797.heap n0 f805 P797_1 P797_2 f803 P797_3 Z_S_COMPACT_STRINGS f804 hcs (by decide) f808 f809 f810 f811 (by decide) (by decide) f814 f815 f816 f817 rfl Z_S_SIOOBE_FORMATTER hfv (by decide) (by decide) rfl (by decide) (by decide) rfl) hZ797 (tw162 hw) (tw2 hw) (by decide) (by decide)) (g := (mkF m 121 #[.val (.int p1), .val (.int p2), .val (.int p3), .val (.int (0 : Int32)), .val (.int (2 : Int32)), .val (.ref b6_57), .val (.ref b674_770), .val (.ref b267_404_797), .val (.int (3 : Int32))] [(.int (1 : Int32)), (.ref b674_770), (.ref b6_57), (.ref b267_404_797)])) rfl (by rw [hml]; rfl) (argsL := [(.ref b267_404_797), (.ref b6_57), (.ref b674_770), (.int (1 : Int32))]) (rest := []) (lenOf pd_24 rfl) rfl (by show 2 * 0 + _ ≤ _; exact Nat.le_of_eq rfl) (hb hby at_121) (fun _ _ => ⟨rfl, eq812, (by decide : 16 + 0 ≤ _), (by decide : 70 + 0 ≤ _)⟩)
      dsimp only [Pt.U, Pt.locs, Pt.cells, Pt.slots] at X818 l818 y818 z818 st818 hQ818
      subst l818 y818 z818
      obtain ⟨rfl, N818q, eq818⟩ := hQ818
      have N819 := Fr.app N813 N818q
      refine GoH.step (fun _ k => st818 _ (XS.ifNo X818.here hx rfl (hb hby at_124) rfl ((if0 _ _).trans (feq (by decide)).1) (XS.aload X818.here hx rfl (hb hby at_127) rfl rfl (XS.aload X818.here hx rfl (hb hby at_129) rfl rfl (XS.aload X818.here hx rfl (hb hby at_131) rfl rfl (XS.iconst X818.here hx rfl (hb hby at_133) k)))))) ?_
      show GoH p e below s _ _ _ T818 (mkF m 134 #[.val (.int p1), .val (.int p2), .val (.int p3), .val (.int (0 : Int32)), .val (.int (2 : Int32)), .val (.ref b6_57), .val (.ref b674_770), .val (.ref b267_404_797), .val (.int (3 : Int32))] [(.int (2 : Int32)), (.ref b674_770), (.ref b6_57), (.ref b267_404_797)])
      obtain ⟨_, _, ⟨T820, L820, k820, n820⟩, -, X820, ⟨Lc820, hQ820, l820, y820, z820⟩, st820⟩ := Jvm.LawKit.callS X818 hx (y := xm35) hown797 (mvT hZ797 (tw160 hw)) (mvT hZ797 (tw161 hw)) (mvT hZ797 (tw2 hw)) (mvT hZ797 (tw162 hw)) (by decide) (backOf (W := 0) (rm_SubjectSetTypeToStringPinLaw_ok_2 l Z a0 hw [] b267_404_797 b6_57 b674_770 (2 : Int32) b297_325_341_364_384_404_797 k297_325_341_364_384_404_797 (3 : Int32) ([(.int (35 : Int32)), (.int (nar .byte ((nar .char c2).toInt8.toInt32))), (.int (nar .byte ((nar .char c3).toInt8.toInt32)))]) cs b13_41_49_57 kb13_41_49_57 (0 : Int32) ([]) b692_714_744_755_770 k692_714_744_755_770 (2 : Int32) ([(.int (nar .byte ((nar .char c2).toInt8.toInt32))), (.int (nar .byte ((nar .char c3).toInt8.toInt32)))]) (nar .byte ((nar .char c3).toInt8.toInt32)) fv (nar .byte ((nar .char c3).toInt8.toInt32)) T797.heap n0 f805 P797_1 P797_2 f803 P797_3 Z_S_COMPACT_STRINGS f804 hcs (by decide) f808 f809 f810 f811 (by decide) (by decide) f814 f815 f816 f817 rfl Z_S_SIOOBE_FORMATTER hfv (by decide) (by decide) rfl (by decide) (by decide) rfl) hZ797 (tw162 hw) (tw2 hw) (by decide) (by decide)) (g := (mkF m 134 #[.val (.int p1), .val (.int p2), .val (.int p3), .val (.int (0 : Int32)), .val (.int (2 : Int32)), .val (.ref b6_57), .val (.ref b674_770), .val (.ref b267_404_797), .val (.int (3 : Int32))] [(.int (2 : Int32)), (.ref b674_770), (.ref b6_57), (.ref b267_404_797)])) rfl (by rw [hml]; rfl) (argsL := [(.ref b267_404_797), (.ref b6_57), (.ref b674_770), (.int (2 : Int32))]) (rest := []) (lenOf pd_24 rfl) rfl (by show 2 * 0 + _ ≤ _; exact Nat.le_of_eq rfl) (hb hby at_134) (fun _ _ => ⟨rfl, eq818, (by decide : 16 + 0 ≤ _), (by decide : 70 + 0 ≤ _)⟩)
      dsimp only [Pt.U, Pt.locs, Pt.cells, Pt.slots] at X820 l820 y820 z820 st820 hQ820
      subst l820 y820 z820
      obtain ⟨rfl, N820q, eq820⟩ := hQ820
      have N821 := Fr.app N819 N820q
      refine GoH.step (fun _ k => st820 _ (XS.ifNo X820.here hx rfl (hb hby at_137) rfl ((if0 _ _).trans (feq (by decide)).1) (XS.aload X820.here hx rfl (hb hby at_140) rfl rfl (XS.aload X820.here hx rfl (hb hby at_142) rfl rfl (XS.aload X820.here hx rfl (hb hby at_144) rfl rfl (XS.iconst X820.here hx rfl (hb hby at_146) k)))))) ?_
      show GoH p e below s _ _ _ T820 (mkF m 147 #[.val (.int p1), .val (.int p2), .val (.int p3), .val (.int (0 : Int32)), .val (.int (2 : Int32)), .val (.ref b6_57), .val (.ref b674_770), .val (.ref b267_404_797), .val (.int (3 : Int32))] [(.int (3 : Int32)), (.ref b674_770), (.ref b6_57), (.ref b267_404_797)])
      obtain ⟨_, _, ⟨T822, L822, k822, n822⟩, -, X822, ⟨Lc822, hQ822, l822, y822, z822⟩, st822⟩ := Jvm.LawKit.callS X820 hx (y := xm35) hown797 (mvT hZ797 (tw160 hw)) (mvT hZ797 (tw161 hw)) (mvT hZ797 (tw2 hw)) (mvT hZ797 (tw162 hw)) (by decide) (backOf (W := 0) (rm_SubjectSetTypeToStringPinLaw_ok_1 l Z a0 hw [] b267_404_797 b6_57 b674_770 (3 : Int32) b297_325_341_364_384_404_797 k297_325_341_364_384_404_797 (3 : Int32) ([(.int (35 : Int32)), (.int (nar .byte ((nar .char c2).toInt8.toInt32))), (.int (nar .byte ((nar .char c3).toInt8.toInt32)))]) cs T797.heap n0 f805 P797_1 P797_2 f803 P797_3 Z_S_COMPACT_STRINGS f804 hcs (by decide)) hZ797 (tw162 hw) (tw2 hw) (by decide) (by decide)) (g := (mkF m 147 #[.val (.int p1), .val (.int p2), .val (.int p3), .val (.int (0 : Int32)), .val (.int (2 : Int32)), .val (.ref b6_57), .val (.ref b674_770), .val (.ref b267_404_797), .val (.int (3 : Int32))] [(.int (3 : Int32)), (.ref b674_770), (.ref b6_57), (.ref b267_404_797)])) rfl (by rw [hml]; rfl) (argsL := [(.ref b267_404_797), (.ref b6_57), (.ref b674_770), (.int (3 : Int32))]) (rest := []) (lenOf pd_24 rfl) rfl (by show 2 * 0 + _ ≤ _; exact Nat.le_of_eq rfl) (hb hby at_147) (fun _ _ => ⟨rfl, eq820, (by decide : 16 + 0 ≤ _), (by decide : 70 + 0 ≤ _)⟩)
      dsimp only [Pt.U, Pt.locs, Pt.cells, Pt.slots] at X822 l822 y822 z822 st822 hQ822
      subst l822 y822 z822
      obtain ⟨rfl, N822q, eq822⟩ := hQ822
      have N823 := Fr.app N821 N822q
      refine GoH.step (fun _ k => st822 _ (XS.ifNo X822.here hx rfl (hb hby at_150) rfl ((if0 _ _).trans (feq (by decide)).1) (XS.aload X822.here hx rfl (hb hby at_153) rfl rfl (XS.aload X822.here hx rfl (hb hby at_155) rfl rfl (XS.aload X822.here hx rfl (hb hby at_157) rfl rfl (XS.iconst X822.here hx rfl (hb hby at_159) k)))))) ?_
      show GoH p e below s _ _ _ T822 (mkF m 160 #[.val (.int p1), .val (.int p2), .val (.int p3), .val (.int (0 : Int32)), .val (.int (2 : Int32)), .val (.ref b6_57), .val (.ref b674_770), .val (.ref b267_404_797), .val (.int (3 : Int32))] [(.int (4 : Int32)), (.ref b674_770), (.ref b6_57), (.ref b267_404_797)])
      obtain ⟨_, _, ⟨T824, L824, k824, n824⟩, -, X824, ⟨Lc824, hQ824, l824, y824, z824⟩, st824⟩ := Jvm.LawKit.callS X822 hx (y := xm35) hown797 (mvT hZ797 (tw160 hw)) (mvT hZ797 (tw161 hw)) (mvT hZ797 (tw2 hw)) (mvT hZ797 (tw162 hw)) (by decide) (backOf (W := 0) (rm_SubjectSetTypeToStringPinLaw_ok_1 l Z a0 hw [] b267_404_797 b6_57 b674_770 (4 : Int32) b297_325_341_364_384_404_797 k297_325_341_364_384_404_797 (3 : Int32) ([(.int (35 : Int32)), (.int (nar .byte ((nar .char c2).toInt8.toInt32))), (.int (nar .byte ((nar .char c3).toInt8.toInt32)))]) cs T797.heap n0 f805 P797_1 P797_2 f803 P797_3 Z_S_COMPACT_STRINGS f804 hcs (by decide)) hZ797 (tw162 hw) (tw2 hw) (by decide) (by decide)) (g := (mkF m 160 #[.val (.int p1), .val (.int p2), .val (.int p3), .val (.int (0 : Int32)), .val (.int (2 : Int32)), .val (.ref b6_57), .val (.ref b674_770), .val (.ref b267_404_797), .val (.int (3 : Int32))] [(.int (4 : Int32)), (.ref b674_770), (.ref b6_57), (.ref b267_404_797)])) rfl (by rw [hml]; rfl) (argsL := [(.ref b267_404_797), (.ref b6_57), (.ref b674_770), (.int (4 : Int32))]) (rest := []) (lenOf pd_24 rfl) rfl (by show 2 * 0 + _ ≤ _; exact Nat.le_of_eq rfl) (hb hby at_160) (fun _ _ => ⟨rfl, eq822, (by decide : 16 + 0 ≤ _), (by decide : 70 + 0 ≤ _)⟩)
      dsimp only [Pt.U, Pt.locs, Pt.cells, Pt.slots] at X824 l824 y824 z824 st824 hQ824
      subst l824 y824 z824
      obtain ⟨rfl, N824q, eq824⟩ := hQ824
      have N825 := Fr.app N823 N824q
      refine GoH.step (fun _ k => st824 _ (XS.ifNo X824.here hx rfl (hb hby at_163) rfl ((if0 _ _).trans (feq (by decide)).1) (XS.iconst X824.here hx rfl (hb hby at_166) (XS.goto X824.here hx rfl (pc0 := 167) (pc' := 171) rfl (hb hby at_167) (by decide) (by decide) k)))) ?_
      show GoH p e below s _ _ _ T824 (mkF m 171 #[.val (.int p1), .val (.int p2), .val (.int p3), .val (.int (0 : Int32)), .val (.int (2 : Int32)), .val (.ref b6_57), .val (.ref b674_770), .val (.ref b267_404_797), .val (.int (3 : Int32))] [(.int (1 : Int32))])
      exact GoH.retN X824 hS797 hx hlk (t := .boolean) Bd.returns (by simp) (hb hby at_171) eq824 (Nat.le_refl _) ⟨rfl, N825⟩ (f802.trans (CHv.at X824 hZ797 (own_EW hw) f802.1)) (by decide) (by decide)
  · show GoH p e below s _ _ _ s₁ (mkF m 31 #[.val (.int p1), .val (.int p2), .val (.int p3), .val (.int (1 : Int32)), .val (.int rl), .unset, .unset, .unset, .unset] [(.int c1), (.int c0), (.int (1 : Int32))])
    obtain ⟨_, _, ⟨T826, L826, k826, n826⟩, -, X826s, hs826, hg826, ⟨Lc826, hQ826, l826, y826, z826, ch826⟩, st826⟩ := callSS X0 hx (y := xm34) hown (mvT hZ (tw0 hw)) (mvT hZ (tw1 hw)) (mvT hZ (tw2 hw)) (mvT hZ (tw3 hw)) (by decide) (backOfSH (W := 0) (rm_SubjectSetTypeToStringPinLaw_mk_1 l Z a0 hw [] c0 c1 cs h0 n0 Z0 Z_S_COMPACT_STRINGS O0 hcs hc0) hZ (tw3 hw) (tw2 hw) (by decide) (by decide) (own_EW hw) CH0.1) (g := (mkF m 31 #[.val (.int p1), .val (.int p2), .val (.int p3), .val (.int (1 : Int32)), .val (.int rl), .unset, .unset, .unset, .unset] [(.int c1), (.int c0), (.int (1 : Int32))])) rfl (by rw [hml]; rfl) (argsL := [(.int (1 : Int32)), (.int c0), (.int c1)]) (rest := []) (lenOf pd_3 rfl) rfl (by show 2 * 0 + _ ≤ _; exact Nat.le_of_eq rfl) (hb hby at_31) (fun _ _ => ⟨rfl, e0, (by decide : 0 + 3 ≤ _), (by decide : 0 + 6 ≤ _)⟩)
    dsimp only [Pt.U, Pt.locs, Pt.cells, Pt.slots] at X826s hs826 hg826 l826 y826 z826 st826 hQ826 ch826
    subst l826 y826 z826
    obtain ⟨X826, hS826, hZ826, hown826⟩ := rebS hS0 (by rw [e0]; exact (Nat.le_refl _)) X826s hs826 hg826 hZ hown
    obtain ⟨b502_826, b516_532_561_572_826, k516_532_561_572_826, rfl, N826q, K826, P826_0, P826_1, P826_2, P826_3, P826_4, P826_5, P826_6⟩ := hQ826
    have N827 := Fr.app N0 N826q
    have f828 := CH0.trans ch826
    refine GoH.step (fun _ k => st826.trans (XS.astore X826.here hx rfl (hb hby at_34) rfl rfl (l' := #[.val (.int p1), .val (.int p2), .val (.int p3), .val (.int (1 : Int32)), .val (.int rl), .val (.ref b502_826), .unset, .unset, .unset]) rfl (XS.iload X826.here hx rfl (hb hby at_36) rfl (XS.iloadN X826.here hx rfl (hb hby at_38) rfl (XS.sipush X826.here hx rfl (hb hby at_39) (XS.iand X826.here hx rfl (hb hby at_42) rfl (XS.i2c X826.here hx rfl (hb hby at_43) rfl k))))))) ?_
    show GoH p e below s _ _ _ T826 (mkF m 44 #[.val (.int p1), .val (.int p2), .val (.int p3), .val (.int (1 : Int32)), .val (.int rl), .val (.ref b502_826), .unset, .unset, .unset] [(.int ((p3 &&& (255 : Int32)).toUInt32.toUInt16.toUInt32.toInt32)), (.int rl)])
    obtain ⟨c2, ec2⟩ : ∃ z, z = ((p3 &&& (255 : Int32)).toUInt32.toUInt16.toUInt32.toInt32) := ⟨_, rfl⟩
    have hc2 : ¬ (255 : Int32) < (nar .char c2) := by rw [ec2]; exact own_c2 _
    rw [← ec2]
    refine GoH.step (fun _ k => XS.iloadN X826.here hx rfl (hb hby at_44) rfl (XS.bipush X826.here hx rfl (hb hby at_45) (XS.iushr X826.here hx rfl (hb hby at_47) rfl (XS.sipush X826.here hx rfl (hb hby at_48) (XS.iand X826.here hx rfl (hb hby at_51) rfl (XS.i2c X826.here hx rfl (hb hby at_52) rfl k)))))) ?_
    show GoH p e below s _ _ _ T826 (mkF m 53 #[.val (.int p1), .val (.int p2), .val (.int p3), .val (.int (1 : Int32)), .val (.int rl), .val (.ref b502_826), .unset, .unset, .unset] [(.int ((((p3.toUInt32 >>> ((8 : Int32) &&& 31).toUInt32).toInt32) &&& (255 : Int32)).toUInt32.toUInt16.toUInt32.toInt32)), (.int c2), (.int rl)])
    obtain ⟨c3, ec3⟩ : ∃ z, z = ((((p3.toUInt32 >>> ((8 : Int32) &&& 31).toUInt32).toInt32) &&& (255 : Int32)).toUInt32.toUInt16.toUInt32.toInt32) := ⟨_, rfl⟩
    have hc3 : ¬ (255 : Int32) < (nar .char c3) := by rw [ec3]; exact own_c2 _
    rw [← ec3]
    show GoH p e below s _ _ _ T826 (mkF m 53 #[.val (.int p1), .val (.int p2), .val (.int p3), .val (.int (1 : Int32)), .val (.int rl), .val (.ref b502_826), .unset, .unset, .unset] [(.int c3), (.int c2), (.int rl)])
    rcases hrl with rfl | rfl | rfl
    · show GoH p e below s _ _ _ T826 (mkF m 53 #[.val (.int p1), .val (.int p2), .val (.int p3), .val (.int (1 : Int32)), .val (.int (0 : Int32)), .val (.ref b502_826), .unset, .unset, .unset] [(.int c3), (.int c2), (.int (0 : Int32))])
      have f829 := (Nat.le_trans Z0 K826.1)
      obtain ⟨_, _, ⟨T830, L830, k830, n830⟩, -, X830s, hs830, hg830, ⟨Lc830, hQ830, l830, y830, z830, ch830⟩, st830⟩ := callSS X826 hx (y := xm34) hown826 (mvT hZ826 (tw0 hw)) (mvT hZ826 (tw1 hw)) (mvT hZ826 (tw2 hw)) (mvT hZ826 (tw3 hw)) (by decide) (backOfSH (W := 0) (rm_SubjectSetTypeToStringPinLaw_mk_0 l Z a0 hw [] c2 c3 T826.heap n0 f829) hZ826 (tw3 hw) (tw2 hw) (by decide) (by decide) (own_EW hw) f828.1) (g := (mkF m 53 #[.val (.int p1), .val (.int p2), .val (.int p3), .val (.int (1 : Int32)), .val (.int (0 : Int32)), .val (.ref b502_826), .unset, .unset, .unset] [(.int c3), (.int c2), (.int (0 : Int32))])) rfl (by rw [hml]; rfl) (argsL := [(.int (0 : Int32)), (.int c2), (.int c3)]) (rest := []) (lenOf pd_3 rfl) rfl (by show 2 * 0 + _ ≤ _; exact Nat.le_of_eq rfl) (hb hby at_53) (fun _ _ => ⟨rfl, rfl, (by decide : 3 + 6 ≤ _), (by decide : 6 + 12 ≤ _)⟩)
      dsimp only [Pt.U, Pt.locs, Pt.cells, Pt.slots] at X830s hs830 hg830 l830 y830 z830 st830 hQ830 ch830
      subst l830 y830 z830
      obtain ⟨X830, hS830, hZ830, hown830⟩ := rebS hS826 (by exact (Nat.le_refl _)) X830s hs830 hg830 hZ826 hown826
      obtain ⟨b6_830, b13_41_49_830, kb13_41_49_830, rfl, N830q, K830, P830_0, P830_1, P830_2, P830_3, P830_4⟩ := hQ830
      have N831 := Fr.app N827 N830q
      have f832 := f828.trans ch830
      refine GoH.step (fun _ k => st830.trans (XS.astore X830.here hx rfl (hb hby at_56) rfl rfl (l' := #[.val (.int p1), .val (.int p2), .val (.int p3), .val (.int (1 : Int32)), .val (.int (0 : Int32)), .val (.ref b502_826), .val (.ref b6_830), .unset, .unset]) rfl k)) ?_
      show GoH p e below s _ _ _ T830 (mkF m 58 #[.val (.int p1), .val (.int p2), .val (.int p3), .val (.int (1 : Int32)), .val (.int (0 : Int32)), .val (.ref b502_826), .val (.ref b6_830), .unset, .unset] [])
      obtain ⟨T833, h833, X833, e833, E833, A833, D833, -, st833⟩ := newO X830 hx hZ830 hown830 (tw26 hw) (tw27 hw) (tw28 hw) rfl (g := (mkF m 58 #[.val (.int p1), .val (.int p2), .val (.int p3), .val (.int (1 : Int32)), .val (.int (0 : Int32)), .val (.ref b502_826), .val (.ref b6_830), .unset, .unset] [])) rfl (hb hby at_58) (by decide) (by decide)
      obtain ⟨b833, g833⟩ : ∃ z, z = T830.heap.size := ⟨_, rfl⟩
      rw [← g833] at A833 D833 st833
      have f834 : Fld Z h833 b833 xs2 "type" xs21 .null := D833 (Or.inr (tw39 hw)) (ty := (.object xs25)) (by decide)
      have f835 : Fld Z h833 b833 xs2 "relation" xs21 .null := D833 (Or.inr (tw41 hw)) (ty := (.object xs25)) (by decide)
      refine GoH.step (fun _ k => st833 _ (XS.dup X833.here hx rfl (hb hby at_61) rfl rfl (XS.aload X833.here hx rfl (hb hby at_62) rfl rfl (XS.aload X833.here hx rfl (hb hby at_64) rfl rfl k)))) ?_
      show GoH p e below s _ _ _ T833 (mkF m 66 #[.val (.int p1), .val (.int p2), .val (.int p3), .val (.int (1 : Int32)), .val (.int (0 : Int32)), .val (.ref b502_826), .val (.ref b6_830), .unset, .unset] [(.ref b6_830), (.ref b502_826), (.ref b833), (.ref b833)])
      have f836 := (Nat.le_trans (Nat.le_trans f829 K830.1) E833.1)
      have f837 := (Nat.le_trans f829 K830.1)
      have g838 := Nat.le_trans f837 (Nat.le_of_eq g833.symm)
      obtain ⟨_, _, ⟨T839, L839, k839, n839⟩, -, X839, ⟨Lc839, hQ839, l839, y839, z839⟩, st839⟩ := X833.specialBack hx (y := xm31) rfl hown830 (mvT hZ830 (tw29 hw)) (mvT hZ830 (tw30 hw)) (mvT hZ830 (tw31 hw)) (by decide) (backOf (W := 1) (rm_SubjectSetType_new_0 l Z a0 hw [] b833 b502_826 b6_830 h833 n0 f836 A833 f834 g838 f835) hZ830 (tw31 hw) (tw28 hw) (by decide) (by decide)) (g := (mkF m 66 #[.val (.int p1), .val (.int p2), .val (.int p3), .val (.int (1 : Int32)), .val (.int (0 : Int32)), .val (.ref b502_826), .val (.ref b6_830), .unset, .unset] [(.ref b6_830), (.ref b502_826), (.ref b833), (.ref b833)])) rfl (by rw [hml]; rfl) (Steps.refl _) (a := b833) (argsL := [(.ref b502_826), (.ref b6_830)]) (rest := [(.ref b833)]) (lenOf pd_5 rfl) rfl (by show 2 * 0 + _ ≤ _; exact Nat.le_of_eq rfl) (hb hby at_66) (fun _ _ => ⟨rfl, e833, (by decide : 10 + 0 ≤ _), (by decide : 20 + 0 ≤ _)⟩)
      dsimp only [Pt.U, Pt.locs, Pt.cells, Pt.slots] at X839 l839 y839 z839 st839 hQ839
      subst l839 y839 z839
      obtain ⟨rfl, N839q, K839, P839_0, P839_1⟩ := hQ839
      have N840 := Fr.app N831 N839q
      refine GoH.step (fun _ k => st839.trans k) ?_
      show GoH p e below s _ _ _ T839 (mkF m 69 #[.val (.int p1), .val (.int p2), .val (.int p3), .val (.int (1 : Int32)), .val (.int (0 : Int32)), .val (.ref b502_826), .val (.ref b6_830), .unset, .unset] [(.ref b833)])
      have f841 := ((((O0.keep K826 all0).keep K830 all0).ext E833).keep K839 (allS g838 all0))
      have f842 := (Nat.le_trans f836 K839.1)
      have f843 := (((P826_1.keep K830).ext E833).keep K839)
      have f844 := (P826_1.keep K830)
      have ne845 : b502_826 ≠ b833 := Nat.ne_of_lt (Nat.lt_of_lt_of_le f844.lt (Nat.le_of_eq g833.symm))
      have f846 := (((P826_2.keep K830 nin0).ext E833).keep K839 (ninS ne845 nin0))
      have f847 := (P826_5.keep K830 nin0)
      have ne848 : b516_532_561_572_826 ≠ b833 := Nat.ne_of_lt (Nat.lt_of_lt_of_le f847.lt (Nat.le_of_eq g833.symm))
      have f849 := (((P826_5.keep K830 nin0).ext E833).keep K839 (ninS ne848 nin0))
      have f850 := (((P826_3.keep K830 nin0).ext E833).keep K839 (ninS ne845 nin0))
      have f851 := ((P830_1.ext E833).keep K839)
      have ne852 : b6_830 ≠ b833 := Nat.ne_of_lt (Nat.lt_of_lt_of_le P830_1.lt (Nat.le_of_eq g833.symm))
      have f853 := ((P830_2.ext E833).keep K839 (ninS ne852 nin0))
      have ne854 : b13_41_49_830 ≠ b833 := Nat.ne_of_lt (Nat.lt_of_lt_of_le P830_4.lt (Nat.le_of_eq g833.symm))
      have f855 := ((P830_4.ext E833).keep K839 (ninS ne854 nin0))
      have f856 := ((P830_3.ext E833).keep K839 (ninS ne852 nin0))
      have f858 := (own_chK (own_chE f832 E833) K839 (sfS (Safe.exa hZ830.alike A833 (by decide) (by decide)) sf0))
      have f859 := (A833.keep K839)
      obtain ⟨cq857, kq857, q857a, q857b, q857c⟩ := isOf hZ830 rfl f859
      obtain ⟨_, _, ⟨T857, L857, k857, n857⟩, -, X857s, hs857, hg857, ⟨Lc857, hQ857, l857, y857, z857, ch857⟩, st857⟩ := X839.virtualBackS hx (y := xm22) (z := xm22) hown830 (mvT hZ830 (tw42 hw)) (mvT hZ830 (tw43 hw)) (notFace_of_selects (args := #[]) (mvT hZ830 (tw45 hw))) (mvT hZ830 (tw45 hw)) (mvT hZ830 (tw44 hw)) (by decide) (backOfSH (W := 0) (rm_SubjectSetType_toString_0 l Z a0 hw [] b833 cs b502_826 b516_532_561_572_826 k516_532_561_572_826 (1 : Int32) ([(.int (nar .byte ((nar .char c0).toInt8.toInt32)))]) b6_830 b13_41_49_830 kb13_41_49_830 (0 : Int32) ([]) T839.heap n0 f842 Z_S_COMPACT_STRINGS f841 hcs P839_0 f843 f846 f849 f850 (by decide) (by decide) (Nat.le_of_ble_eq_true rfl) (Nat.le_of_ble_eq_true rfl) (Nat.le_of_ble_eq_true rfl) (by decide) (by decide) (Nat.le_of_ble_eq_true rfl) (Nat.le_of_ble_eq_true rfl) P839_1 f851 f853 f855 f856 (by decide) (by decide) (by decide) (Nat.le_of_ble_eq_true rfl) (Nat.le_of_ble_eq_true rfl) (Nat.le_of_ble_eq_true rfl) (by decide) (by decide) (by decide) (Nat.le_of_ble_eq_true rfl) (by decide) (Nat.le_of_ble_eq_true rfl) (Nat.le_of_ble_eq_true rfl) (Nat.le_of_ble_eq_true rfl)) hZ830 (tw46 hw) (tw28 hw) (by decide) (by decide) (own_EW hw) f858.1) q857a q857c (g := (mkF m 69 #[.val (.int p1), .val (.int p2), .val (.int p3), .val (.int (1 : Int32)), .val (.int (0 : Int32)), .val (.ref b502_826), .val (.ref b6_830), .unset, .unset] [(.ref b833)])) rfl (by rw [hml]; rfl) (Steps.refl _) (argsL := []) (rest := []) (lenOf pd_21 rfl) rfl (by show 2 * 0 + _ ≤ _; exact Nat.le_of_eq rfl) (hb hby at_69) (fun _ _ => ⟨rfl, rfl, (by decide : 10 + 6 ≤ _), (by decide : 20 + 48 ≤ _)⟩)
      dsimp only [Pt.U, Pt.locs, Pt.cells, Pt.slots] at X857s hs857 hg857 l857 y857 z857 st857 hQ857 ch857
      subst l857 y857 z857
      have f860 := (Nat.le_trans (Nat.le_trans (Nat.le_refl _) E833.1) K839.1)
      obtain ⟨X857, hS857, hZ857, hown857⟩ := rebS hS830 (by exact f860) X857s hs857 hg857 hZ830 hown830
      obtain ⟨b267_404_857, b297_325_341_364_384_404_857, k297_325_341_364_384_404_857, rfl, N857q, K857, P857_0, P857_1, P857_2, P857_3, P857_4, P857_5, P857_6⟩ := hQ857
      have N861 := Fr.app N840 N857q
      have f862 := f858.trans ch857
      refine GoH.step (fun _ k => st857.trans k) ?_
      show GoH p e below s _ _ _ T857 (mkF m 72 #[.val (.int p1), .val (.int p2), .val (.int p3), .val (.int (1 : Int32)), .val (.int (0 : Int32)), .val (.ref b502_826), .val (.ref b6_830), .unset, .unset] [(.ref b267_404_857)])
      have f863 : Arv Z T857.heap b297_325_341_364_384_404_857 k297_325_341_364_384_404_857 .byte (2 : Int32) [(.int (nar .byte ((nar .char c0).toInt8.toInt32))), (.int (35 : Int32))] (.int (0 : Int32)) := P857_5
      refine GoH.step (fun _ k => XS.astore X857.here hx rfl (hb hby at_72) rfl rfl (l' := #[.val (.int p1), .val (.int p2), .val (.int p3), .val (.int (1 : Int32)), .val (.int (0 : Int32)), .val (.ref b502_826), .val (.ref b6_830), .val (.ref b267_404_857), .unset]) rfl (XS.aload X857.here hx rfl (hb hby at_74) rfl rfl (XS.ifnonnullYes X857.here hx rfl (pc0 := 76) (pc' := 81) rfl (hb hby at_76) rfl (by decide) (by decide) (XS.iloadN X857.here hx rfl (hb hby at_81) rfl (XS.iconst X857.here hx rfl (hb hby at_82) (XS.iadd X857.here hx rfl (hb hby at_83) rfl (XS.iload X857.here hx rfl (hb hby at_84) rfl (XS.iadd X857.here hx rfl (hb hby at_86) rfl (XS.istore X857.here hx rfl (hb hby at_87) rfl (l' := #[.val (.int p1), .val (.int p2), .val (.int p3), .val (.int (1 : Int32)), .val (.int (0 : Int32)), .val (.ref b502_826), .val (.ref b6_830), .val (.ref b267_404_857), .val (.int (2 : Int32))]) rfl (XS.aload X857.here hx rfl (hb hby at_89) rfl rfl k)))))))))) ?_
      show GoH p e below s _ _ _ T857 (mkF m 91 #[.val (.int p1), .val (.int p2), .val (.int p3), .val (.int (1 : Int32)), .val (.int (0 : Int32)), .val (.ref b502_826), .val (.ref b6_830), .val (.ref b267_404_857), .val (.int (2 : Int32))] [(.ref b267_404_857)])
      have f864 := (f841.keep K857 all0)
      have f865 := (Nat.le_trans f842 K857.1)
      obtain ⟨cq866, kq866, q866a, q866b, q866c⟩ := isOf hZ857 rfl P857_1
      obtain ⟨_, _, ⟨T866, L866, k866, n866⟩, -, X866, ⟨Lc866, hQ866, l866, y866, z866⟩, st866⟩ := X857.virtualBack hx (y := xm19) (z := xm19) hown857 (mvT hZ857 (tw159 hw)) (mvT hZ857 (tw76 hw)) (notFace_of_selects (args := #[]) (mvT hZ857 (tw78 hw))) (mvT hZ857 (tw78 hw)) (mvT hZ857 (tw77 hw)) (by decide) (backOf (W := 0) (rm_String_length_0 l Z a0 hw [] b267_404_857 b297_325_341_364_384_404_857 k297_325_341_364_384_404_857 (2 : Int32) ([(.int (nar .byte ((nar .char c0).toInt8.toInt32))), (.int (35 : Int32))]) cs T857.heap n0 f865 P857_2 f863 P857_1 Z_S_COMPACT_STRINGS f864 hcs P857_3) hZ857 (tw79 hw) (tw6 hw) (by decide) (by decide)) q866a q866c (g := (mkF m 91 #[.val (.int p1), .val (.int p2), .val (.int p3), .val (.int (1 : Int32)), .val (.int (0 : Int32)), .val (.ref b502_826), .val (.ref b6_830), .val (.ref b267_404_857), .val (.int (2 : Int32))] [(.ref b267_404_857)])) rfl (by rw [hml]; rfl) (Steps.refl _) (argsL := []) (rest := []) (lenOf pd_8 rfl) rfl (by show 2 * 0 + _ ≤ _; exact Nat.le_of_eq rfl) (hb hby at_91) (fun _ _ => ⟨rfl, rfl, (by decide : 16 + 0 ≤ _), (by decide : 68 + 0 ≤ _)⟩)
      dsimp only [Pt.U, Pt.locs, Pt.cells, Pt.slots] at X866 l866 y866 z866 st866 hQ866
      subst l866 y866 z866
      obtain ⟨rfl, N866q, eq866⟩ := hQ866
      have N867 := Fr.app N861 N866q
      refine GoH.step (fun _ k => st866.trans (XS.iload X866.here hx rfl (hb hby at_94) rfl (XS.icmpYes X866.here hx rfl (pc0 := 96) (pc' := 101) rfl (hb hby at_96) rfl (teq (by decide)).1 (by decide) (by decide) (XS.aload X866.here hx rfl (hb hby at_101) rfl rfl (XS.aload X866.here hx rfl (hb hby at_103) rfl rfl (XS.aload X866.here hx rfl (hb hby at_105) rfl rfl (XS.iconst X866.here hx rfl (hb hby at_107) k))))))) ?_
      show GoH p e below s _ _ _ T866 (mkF m 108 #[.val (.int p1), .val (.int p2), .val (.int p3), .val (.int (1 : Int32)), .val (.int (0 : Int32)), .val (.ref b502_826), .val (.ref b6_830), .val (.ref b267_404_857), .val (.int (2 : Int32))] [(.int (0 : Int32)), (.ref b6_830), (.ref b502_826), (.ref b267_404_857)])
      have f891 := (f843.keep K857)
      have f892 := (f846.keep K857 nin0)
      have f893 := (f849.keep K857 nin0)
      have f894 := (f850.keep K857 nin0)
      obtain ⟨_, _, ⟨T895, L895, k895, n895⟩, -, X895, ⟨Lc895, hQ895, l895, y895, z895⟩, st895⟩ := Jvm.LawKit.callS X866 hx (y := xm35) hown857 (mvT hZ857 (tw160 hw)) (mvT hZ857 (tw161 hw)) (mvT hZ857 (tw2 hw)) (mvT hZ857 (tw162 hw)) (by decide) (backOf (W := 0) (rm_SubjectSetTypeToStringPinLaw_ok_3 l Z a0 hw [] b267_404_857 b502_826 b6_830 (0 : Int32) b297_325_341_364_384_404_857 k297_325_341_364_384_404_857 (2 : Int32) ([(.int (nar .byte ((nar .char c0).toInt8.toInt32))), (.int (35 : Int32))]) cs b516_532_561_572_826 k516_532_561_572_826 (1 : Int32) ([(.int (nar .byte ((nar .char c0).toInt8.toInt32)))]) (nar .byte ((nar .char c0).toInt8.toInt32)) fv (nar .byte ((nar .char c0).toInt8.toInt32)) T857.heap n0 f865 P857_1 P857_2 f863 P857_3 Z_S_COMPACT_STRINGS f864 hcs (by decide) f891 f892 f893 f894 (by decide) rfl Z_S_SIOOBE_FORMATTER hfv (by decide) (by decide) rfl (by decide) rfl) hZ857 (tw162 hw) (tw2 hw) (by decide) (by decide)) (g := (mkF m 108 #[.val (.int p1), .val (.int p2), .val (.int p3), .val (.int (1 : Int32)), .val (.int (0 : Int32)), .val (.ref b502_826), .val (.ref b6_830), .val (.ref b267_404_857), .val (.int (2 : Int32))] [(.int (0 : Int32)), (.ref b6_830), (.ref b502_826), (.ref b267_404_857)])) rfl (by rw [hml]; rfl) (argsL := [(.ref b267_404_857), (.ref b502_826), (.ref b6_830), (.int (0 : Int32))]) (rest := []) (lenOf pd_24 rfl) rfl (by show 2 * 0 + _ ≤ _; exact Nat.le_of_eq rfl) (hb hby at_108) (fun _ _ => ⟨rfl, eq866, (by decide : 16 + 0 ≤ _), (by decide : 68 + 0 ≤ _)⟩)
      dsimp only [Pt.U, Pt.locs, Pt.cells, Pt.slots] at X895 l895 y895 z895 st895 hQ895
      subst l895 y895 z895
      obtain ⟨rfl, N895q, eq895⟩ := hQ895
      have N896 := Fr.app N867 N895q
      refine GoH.step (fun _ k => st895 _ (XS.ifNo X895.here hx rfl (hb hby at_111) rfl ((if0 _ _).trans (feq (by decide)).1) (XS.aload X895.here hx rfl (hb hby at_114) rfl rfl (XS.aload X895.here hx rfl (hb hby at_116) rfl rfl (XS.aload X895.here hx rfl (hb hby at_118) rfl rfl (XS.iconst X895.here hx rfl (hb hby at_120) k)))))) ?_
      show GoH p e below s _ _ _ T895 (mkF m 121 #[.val (.int p1), .val (.int p2), .val (.int p3), .val (.int (1 : Int32)), .val (.int (0 : Int32)), .val (.ref b502_826), .val (.ref b6_830), .val (.ref b267_404_857), .val (.int (2 : Int32))] [(.int (1 : Int32)), (.ref b6_830), (.ref b502_826), (.ref b267_404_857)])
      obtain ⟨_, _, ⟨T897, L897, k897, n897⟩, -, X897, ⟨Lc897, hQ897, l897, y897, z897⟩, st897⟩ := Jvm.LawKit.callS X895 hx (y := xm35) hown857 (mvT hZ857 (tw160 hw)) (mvT hZ857 (tw161 hw)) (mvT hZ857 (tw2 hw)) (mvT hZ857 (tw162 hw)) (by decide) (backOf (W := 0) (rm_SubjectSetTypeToStringPinLaw_ok_0 l Z a0 hw [] b267_404_857 b502_826 b6_830 (1 : Int32) b297_325_341_364_384_404_857 k297_325_341_364_384_404_857 (2 : Int32) ([(.int (nar .byte ((nar .char c0).toInt8.toInt32))), (.int (35 : Int32))]) cs b516_532_561_572_826 k516_532_561_572_826 (1 : Int32) ([(.int (nar .byte ((nar .char c0).toInt8.toInt32)))]) fv (35 : Int32) T857.heap n0 f865 P857_1 P857_2 f863 P857_3 Z_S_COMPACT_STRINGS f864 hcs (by decide) f891 f892 f893 f894 (by decide) (by decide) Z_S_SIOOBE_FORMATTER hfv rfl (by decide) (by decide) (by decide)) hZ857 (tw162 hw) (tw2 hw) (by decide) (by decide)) (g := (mkF m 121 #[.val (.int p1), .val (.int p2), .val (.int p3), .val (.int (1 : Int32)), .val (.int (0 : Int32)), .val (.ref b502_826), .val (.ref b6_830), .val (.ref b267_404_857), .val (.int (2 : Int32))] [(.int (1 : Int32)), (.ref b6_830), (.ref b502_826), (.ref b267_404_857)])) rfl (by rw [hml]; rfl) (argsL := [(.ref b267_404_857), (.ref b502_826), (.ref b6_830), (.int (1 : Int32))]) (rest := []) (lenOf pd_24 rfl) rfl (by show 2 * 0 + _ ≤ _; exact Nat.le_of_eq rfl) (hb hby at_121) (fun _ _ => ⟨rfl, eq895, (by decide : 16 + 0 ≤ _), (by decide : 68 + 0 ≤ _)⟩)
      dsimp only [Pt.U, Pt.locs, Pt.cells, Pt.slots] at X897 l897 y897 z897 st897 hQ897
      subst l897 y897 z897
      obtain ⟨rfl, N897q, eq897⟩ := hQ897
      have N898 := Fr.app N896 N897q
      refine GoH.step (fun _ k => st897 _ (XS.ifNo X897.here hx rfl (hb hby at_124) rfl ((if0 _ _).trans (feq (by decide)).1) (XS.aload X897.here hx rfl (hb hby at_127) rfl rfl (XS.aload X897.here hx rfl (hb hby at_129) rfl rfl (XS.aload X897.here hx rfl (hb hby at_131) rfl rfl (XS.iconst X897.here hx rfl (hb hby at_133) k)))))) ?_
      show GoH p e below s _ _ _ T897 (mkF m 134 #[.val (.int p1), .val (.int p2), .val (.int p3), .val (.int (1 : Int32)), .val (.int (0 : Int32)), .val (.ref b502_826), .val (.ref b6_830), .val (.ref b267_404_857), .val (.int (2 : Int32))] [(.int (2 : Int32)), (.ref b6_830), (.ref b502_826), (.ref b267_404_857)])
      obtain ⟨_, _, ⟨T899, L899, k899, n899⟩, -, X899, ⟨Lc899, hQ899, l899, y899, z899⟩, st899⟩ := Jvm.LawKit.callS X897 hx (y := xm35) hown857 (mvT hZ857 (tw160 hw)) (mvT hZ857 (tw161 hw)) (mvT hZ857 (tw2 hw)) (mvT hZ857 (tw162 hw)) (by decide) (backOf (W := 0) (rm_SubjectSetTypeToStringPinLaw_ok_1 l Z a0 hw [] b267_404_857 b502_826 b6_830 (2 : Int32) b297_325_341_364_384_404_857 k297_325_341_364_384_404_857 (2 : Int32) ([(.int (nar .byte ((nar .char c0).toInt8.toInt32))), (.int (35 : Int32))]) cs T857.heap n0 f865 P857_1 P857_2 f863 P857_3 Z_S_COMPACT_STRINGS f864 hcs (by decide)) hZ857 (tw162 hw) (tw2 hw) (by decide) (by decide)) (g := (mkF m 134 #[.val (.int p1), .val (.int p2), .val (.int p3), .val (.int (1 : Int32)), .val (.int (0 : Int32)), .val (.ref b502_826), .val (.ref b6_830), .val (.ref b267_404_857), .val (.int (2 : Int32))] [(.int (2 : Int32)), (.ref b6_830), (.ref b502_826), (.ref b267_404_857)])) rfl (by rw [hml]; rfl) (argsL := [(.ref b267_404_857), (.ref b502_826), (.ref b6_830), (.int (2 : Int32))]) (rest := []) (lenOf pd_24 rfl) rfl (by show 2 * 0 + _ ≤ _; exact Nat.le_of_eq rfl) (hb hby at_134) (fun _ _ => ⟨rfl, eq897, (by decide : 16 + 0 ≤ _), (by decide : 68 + 0 ≤ _)⟩)
      dsimp only [Pt.U, Pt.locs, Pt.cells, Pt.slots] at X899 l899 y899 z899 st899 hQ899
      subst l899 y899 z899
      obtain ⟨rfl, N899q, eq899⟩ := hQ899
      have N900 := Fr.app N898 N899q
      refine GoH.step (fun _ k => st899 _ (XS.ifNo X899.here hx rfl (hb hby at_137) rfl ((if0 _ _).trans (feq (by decide)).1) (XS.aload X899.here hx rfl (hb hby at_140) rfl rfl (XS.aload X899.here hx rfl (hb hby at_142) rfl rfl (XS.aload X899.here hx rfl (hb hby at_144) rfl rfl (XS.iconst X899.here hx rfl (hb hby at_146) k)))))) ?_
      show GoH p e below s _ _ _ T899 (mkF m 147 #[.val (.int p1), .val (.int p2), .val (.int p3), .val (.int (1 : Int32)), .val (.int (0 : Int32)), .val (.ref b502_826), .val (.ref b6_830), .val (.ref b267_404_857), .val (.int (2 : Int32))] [(.int (3 : Int32)), (.ref b6_830), (.ref b502_826), (.ref b267_404_857)])
      obtain ⟨_, _, ⟨T901, L901, k901, n901⟩, -, X901, ⟨Lc901, hQ901, l901, y901, z901⟩, st901⟩ := Jvm.LawKit.callS X899 hx (y := xm35) hown857 (mvT hZ857 (tw160 hw)) (mvT hZ857 (tw161 hw)) (mvT hZ857 (tw2 hw)) (mvT hZ857 (tw162 hw)) (by decide) (backOf (W := 0) (rm_SubjectSetTypeToStringPinLaw_ok_1 l Z a0 hw [] b267_404_857 b502_826 b6_830 (3 : Int32) b297_325_341_364_384_404_857 k297_325_341_364_384_404_857 (2 : Int32) ([(.int (nar .byte ((nar .char c0).toInt8.toInt32))), (.int (35 : Int32))]) cs T857.heap n0 f865 P857_1 P857_2 f863 P857_3 Z_S_COMPACT_STRINGS f864 hcs (by decide)) hZ857 (tw162 hw) (tw2 hw) (by decide) (by decide)) (g := (mkF m 147 #[.val (.int p1), .val (.int p2), .val (.int p3), .val (.int (1 : Int32)), .val (.int (0 : Int32)), .val (.ref b502_826), .val (.ref b6_830), .val (.ref b267_404_857), .val (.int (2 : Int32))] [(.int (3 : Int32)), (.ref b6_830), (.ref b502_826), (.ref b267_404_857)])) rfl (by rw [hml]; rfl) (argsL := [(.ref b267_404_857), (.ref b502_826), (.ref b6_830), (.int (3 : Int32))]) (rest := []) (lenOf pd_24 rfl) rfl (by show 2 * 0 + _ ≤ _; exact Nat.le_of_eq rfl) (hb hby at_147) (fun _ _ => ⟨rfl, eq899, (by decide : 16 + 0 ≤ _), (by decide : 68 + 0 ≤ _)⟩)
      dsimp only [Pt.U, Pt.locs, Pt.cells, Pt.slots] at X901 l901 y901 z901 st901 hQ901
      subst l901 y901 z901
      obtain ⟨rfl, N901q, eq901⟩ := hQ901
      have N902 := Fr.app N900 N901q
      refine GoH.step (fun _ k => st901 _ (XS.ifNo X901.here hx rfl (hb hby at_150) rfl ((if0 _ _).trans (feq (by decide)).1) (XS.aload X901.here hx rfl (hb hby at_153) rfl rfl (XS.aload X901.here hx rfl (hb hby at_155) rfl rfl (XS.aload X901.here hx rfl (hb hby at_157) rfl rfl (XS.iconst X901.here hx rfl (hb hby at_159) k)))))) ?_
      show GoH p e below s _ _ _ T901 (mkF m 160 #[.val (.int p1), .val (.int p2), .val (.int p3), .val (.int (1 : Int32)), .val (.int (0 : Int32)), .val (.ref b502_826), .val (.ref b6_830), .val (.ref b267_404_857), .val (.int (2 : Int32))] [(.int (4 : Int32)), (.ref b6_830), (.ref b502_826), (.ref b267_404_857)])
      obtain ⟨_, _, ⟨T903, L903, k903, n903⟩, -, X903, ⟨Lc903, hQ903, l903, y903, z903⟩, st903⟩ := Jvm.LawKit.callS X901 hx (y := xm35) hown857 (mvT hZ857 (tw160 hw)) (mvT hZ857 (tw161 hw)) (mvT hZ857 (tw2 hw)) (mvT hZ857 (tw162 hw)) (by decide) (backOf (W := 0) (rm_SubjectSetTypeToStringPinLaw_ok_1 l Z a0 hw [] b267_404_857 b502_826 b6_830 (4 : Int32) b297_325_341_364_384_404_857 k297_325_341_364_384_404_857 (2 : Int32) ([(.int (nar .byte ((nar .char c0).toInt8.toInt32))), (.int (35 : Int32))]) cs T857.heap n0 f865 P857_1 P857_2 f863 P857_3 Z_S_COMPACT_STRINGS f864 hcs (by decide)) hZ857 (tw162 hw) (tw2 hw) (by decide) (by decide)) (g := (mkF m 160 #[.val (.int p1), .val (.int p2), .val (.int p3), .val (.int (1 : Int32)), .val (.int (0 : Int32)), .val (.ref b502_826), .val (.ref b6_830), .val (.ref b267_404_857), .val (.int (2 : Int32))] [(.int (4 : Int32)), (.ref b6_830), (.ref b502_826), (.ref b267_404_857)])) rfl (by rw [hml]; rfl) (argsL := [(.ref b267_404_857), (.ref b502_826), (.ref b6_830), (.int (4 : Int32))]) (rest := []) (lenOf pd_24 rfl) rfl (by show 2 * 0 + _ ≤ _; exact Nat.le_of_eq rfl) (hb hby at_160) (fun _ _ => ⟨rfl, eq901, (by decide : 16 + 0 ≤ _), (by decide : 68 + 0 ≤ _)⟩)
      dsimp only [Pt.U, Pt.locs, Pt.cells, Pt.slots] at X903 l903 y903 z903 st903 hQ903
      subst l903 y903 z903
      obtain ⟨rfl, N903q, eq903⟩ := hQ903
      have N904 := Fr.app N902 N903q
      refine GoH.step (fun _ k => st903 _ (XS.ifNo X903.here hx rfl (hb hby at_163) rfl ((if0 _ _).trans (feq (by decide)).1) (XS.iconst X903.here hx rfl (hb hby at_166) (XS.goto X903.here hx rfl (pc0 := 167) (pc' := 171) rfl (hb hby at_167) (by decide) (by decide) k)))) ?_
      show GoH p e below s _ _ _ T903 (mkF m 171 #[.val (.int p1), .val (.int p2), .val (.int p3), .val (.int (1 : Int32)), .val (.int (0 : Int32)), .val (.ref b502_826), .val (.ref b6_830), .val (.ref b267_404_857), .val (.int (2 : Int32))] [(.int (1 : Int32))])
      exact GoH.retN X903 hS857 hx hlk (t := .boolean) Bd.returns (by simp) (hb hby at_171) eq903 (Nat.le_refl _) ⟨rfl, N904⟩ (f862.trans (CHv.at X903 hZ857 (own_EW hw) f862.1)) (by decide) (by decide)
    · show GoH p e below s _ _ _ T826 (mkF m 53 #[.val (.int p1), .val (.int p2), .val (.int p3), .val (.int (1 : Int32)), .val (.int (1 : Int32)), .val (.ref b502_826), .unset, .unset, .unset] [(.int c3), (.int c2), (.int (1 : Int32))])
      have f905 := (O0.keep K826 all0)
      have f906 := (Nat.le_trans Z0 K826.1)
      obtain ⟨_, _, ⟨T907, L907, k907, n907⟩, -, X907s, hs907, hg907, ⟨Lc907, hQ907, l907, y907, z907, ch907⟩, st907⟩ := callSS X826 hx (y := xm34) hown826 (mvT hZ826 (tw0 hw)) (mvT hZ826 (tw1 hw)) (mvT hZ826 (tw2 hw)) (mvT hZ826 (tw3 hw)) (by decide) (backOfSH (W := 0) (rm_SubjectSetTypeToStringPinLaw_mk_1 l Z a0 hw [] c2 c3 cs T826.heap n0 f906 Z_S_COMPACT_STRINGS f905 hcs hc2) hZ826 (tw3 hw) (tw2 hw) (by decide) (by decide) (own_EW hw) f828.1) (g := (mkF m 53 #[.val (.int p1), .val (.int p2), .val (.int p3), .val (.int (1 : Int32)), .val (.int (1 : Int32)), .val (.ref b502_826), .unset, .unset, .unset] [(.int c3), (.int c2), (.int (1 : Int32))])) rfl (by rw [hml]; rfl) (argsL := [(.int (1 : Int32)), (.int c2), (.int c3)]) (rest := []) (lenOf pd_3 rfl) rfl (by show 2 * 0 + _ ≤ _; exact Nat.le_of_eq rfl) (hb hby at_53) (fun _ _ => ⟨rfl, rfl, (by decide : 3 + 3 ≤ _), (by decide : 6 + 6 ≤ _)⟩)
      dsimp only [Pt.U, Pt.locs, Pt.cells, Pt.slots] at X907s hs907 hg907 l907 y907 z907 st907 hQ907 ch907
      subst l907 y907 z907
      obtain ⟨X907, hS907, hZ907, hown907⟩ := rebS hS826 (by exact (Nat.le_refl _)) X907s hs907 hg907 hZ826 hown826
      obtain ⟨b502_907, b516_532_561_572_907, k516_532_561_572_907, rfl, N907q, K907, P907_0, P907_1, P907_2, P907_3, P907_4, P907_5, P907_6⟩ := hQ907
      have N908 := Fr.app N827 N907q
      have f909 := f828.trans ch907
      refine GoH.step (fun _ k => st907.trans (XS.astore X907.here hx rfl (hb hby at_56) rfl rfl (l' := #[.val (.int p1), .val (.int p2), .val (.int p3), .val (.int (1 : Int32)), .val (.int (1 : Int32)), .val (.ref b502_826), .val (.ref b502_907), .unset, .unset]) rfl k)) ?_
      show GoH p e below s _ _ _ T907 (mkF m 58 #[.val (.int p1), .val (.int p2), .val (.int p3), .val (.int (1 : Int32)), .val (.int (1 : Int32)), .val (.ref b502_826), .val (.ref b502_907), .unset, .unset] [])
      obtain ⟨T910, h910, X910, e910, E910, A910, D910, -, st910⟩ := newO X907 hx hZ907 hown907 (tw26 hw) (tw27 hw) (tw28 hw) rfl (g := (mkF m 58 #[.val (.int p1), .val (.int p2), .val (.int p3), .val (.int (1 : Int32)), .val (.int (1 : Int32)), .val (.ref b502_826), .val (.ref b502_907), .unset, .unset] [])) rfl (hb hby at_58) (by decide) (by decide)
      obtain ⟨b910, g910⟩ : ∃ z, z = T907.heap.size := ⟨_, rfl⟩
      rw [← g910] at A910 D910 st910
      have f911 : Fld Z h910 b910 xs2 "type" xs21 .null := D910 (Or.inr (tw39 hw)) (ty := (.object xs25)) (by decide)
      have f912 : Fld Z h910 b910 xs2 "relation" xs21 .null := D910 (Or.inr (tw41 hw)) (ty := (.object xs25)) (by decide)
      refine GoH.step (fun _ k => st910 _ (XS.dup X910.here hx rfl (hb hby at_61) rfl rfl (XS.aload X910.here hx rfl (hb hby at_62) rfl rfl (XS.aload X910.here hx rfl (hb hby at_64) rfl rfl k)))) ?_
      show GoH p e below s _ _ _ T910 (mkF m 66 #[.val (.int p1), .val (.int p2), .val (.int p3), .val (.int (1 : Int32)), .val (.int (1 : Int32)), .val (.ref b502_826), .val (.ref b502_907), .unset, .unset] [(.ref b502_907), (.ref b502_826), (.ref b910), (.ref b910)])
      have f913 := (Nat.le_trans (Nat.le_trans f906 K907.1) E910.1)
      have f914 := (Nat.le_trans f906 K907.1)
      have g915 := Nat.le_trans f914 (Nat.le_of_eq g910.symm)
      obtain ⟨_, _, ⟨T916, L916, k916, n916⟩, -, X916, ⟨Lc916, hQ916, l916, y916, z916⟩, st916⟩ := X910.specialBack hx (y := xm31) rfl hown907 (mvT hZ907 (tw29 hw)) (mvT hZ907 (tw30 hw)) (mvT hZ907 (tw31 hw)) (by decide) (backOf (W := 1) (rm_SubjectSetType_new_0 l Z a0 hw [] b910 b502_826 b502_907 h910 n0 f913 A910 f911 g915 f912) hZ907 (tw31 hw) (tw28 hw) (by decide) (by decide)) (g := (mkF m 66 #[.val (.int p1), .val (.int p2), .val (.int p3), .val (.int (1 : Int32)), .val (.int (1 : Int32)), .val (.ref b502_826), .val (.ref b502_907), .unset, .unset] [(.ref b502_907), (.ref b502_826), (.ref b910), (.ref b910)])) rfl (by rw [hml]; rfl) (Steps.refl _) (a := b910) (argsL := [(.ref b502_826), (.ref b502_907)]) (rest := [(.ref b910)]) (lenOf pd_5 rfl) rfl (by show 2 * 0 + _ ≤ _; exact Nat.le_of_eq rfl) (hb hby at_66) (fun _ _ => ⟨rfl, e910, (by decide : 7 + 0 ≤ _), (by decide : 14 + 0 ≤ _)⟩)
      dsimp only [Pt.U, Pt.locs, Pt.cells, Pt.slots] at X916 l916 y916 z916 st916 hQ916
      subst l916 y916 z916
      obtain ⟨rfl, N916q, K916, P916_0, P916_1⟩ := hQ916
      have N917 := Fr.app N908 N916q
      refine GoH.step (fun _ k => st916.trans k) ?_
      show GoH p e below s _ _ _ T916 (mkF m 69 #[.val (.int p1), .val (.int p2), .val (.int p3), .val (.int (1 : Int32)), .val (.int (1 : Int32)), .val (.ref b502_826), .val (.ref b502_907), .unset, .unset] [(.ref b910)])
      have f918 := (((f905.keep K907 all0).ext E910).keep K916 (allS g915 all0))
      have f919 := (Nat.le_trans f913 K916.1)
      have f920 := (((P826_1.keep K907).ext E910).keep K916)
      have f921 := (P826_1.keep K907)
      have ne922 : b502_826 ≠ b910 := Nat.ne_of_lt (Nat.lt_of_lt_of_le f921.lt (Nat.le_of_eq g910.symm))
      have f923 := (((P826_2.keep K907 nin0).ext E910).keep K916 (ninS ne922 nin0))
      have f924 := (P826_5.keep K907 nin0)
      have ne925 : b516_532_561_572_826 ≠ b910 := Nat.ne_of_lt (Nat.lt_of_lt_of_le f924.lt (Nat.le_of_eq g910.symm))
      have f926 := (((P826_5.keep K907 nin0).ext E910).keep K916 (ninS ne925 nin0))
      have f927 := (((P826_3.keep K907 nin0).ext E910).keep K916 (ninS ne922 nin0))
      have f928 := ((P907_1.ext E910).keep K916)
      have ne929 : b502_907 ≠ b910 := Nat.ne_of_lt (Nat.lt_of_lt_of_le P907_1.lt (Nat.le_of_eq g910.symm))
      have f930 := ((P907_2.ext E910).keep K916 (ninS ne929 nin0))
      have ne931 : b516_532_561_572_907 ≠ b910 := Nat.ne_of_lt (Nat.lt_of_lt_of_le P907_5.lt (Nat.le_of_eq g910.symm))
      have f932 := ((P907_5.ext E910).keep K916 (ninS ne931 nin0))
      have f933 := ((P907_3.ext E910).keep K916 (ninS ne929 nin0))
      have f935 := (own_chK (own_chE f909 E910) K916 (sfS (Safe.exa hZ907.alike A910 (by decide) (by decide)) sf0))
      have f936 := (A910.keep K916)
      obtain ⟨cq934, kq934, q934a, q934b, q934c⟩ := isOf hZ907 rfl f936
      obtain ⟨_, _, ⟨T934, L934, k934, n934⟩, -, X934s, hs934, hg934, ⟨Lc934, hQ934, l934, y934, z934, ch934⟩, st934⟩ := X916.virtualBackS hx (y := xm22) (z := xm22) hown907 (mvT hZ907 (tw42 hw)) (mvT hZ907 (tw43 hw)) (notFace_of_selects (args := #[]) (mvT hZ907 (tw45 hw))) (mvT hZ907 (tw45 hw)) (mvT hZ907 (tw44 hw)) (by decide) (backOfSH (W := 0) (rm_SubjectSetType_toString_0 l Z a0 hw [] b910 cs b502_826 b516_532_561_572_826 k516_532_561_572_826 (1 : Int32) ([(.int (nar .byte ((nar .char c0).toInt8.toInt32)))]) b502_907 b516_532_561_572_907 k516_532_561_572_907 (1 : Int32) ([(.int (nar .byte ((nar .char c2).toInt8.toInt32)))]) T916.heap n0 f919 Z_S_COMPACT_STRINGS f918 hcs P916_0 f920 f923 f926 f927 (by decide) (by decide) (Nat.le_of_ble_eq_true rfl) (Nat.le_of_ble_eq_true rfl) (Nat.le_of_ble_eq_true rfl) (by decide) (by decide) (Nat.le_of_ble_eq_true rfl) (Nat.le_of_ble_eq_true rfl) P916_1 f928 f930 f932 f933 (by decide) (by decide) (by decide) (Nat.le_of_ble_eq_true rfl) (Nat.le_of_ble_eq_true rfl) (Nat.le_of_ble_eq_true rfl) (by decide) (by decide) (by decide) (Nat.le_of_ble_eq_true rfl) (by decide) (Nat.le_of_ble_eq_true rfl) (Nat.le_of_ble_eq_true rfl) (Nat.le_of_ble_eq_true rfl)) hZ907 (tw46 hw) (tw28 hw) (by decide) (by decide) (own_EW hw) f935.1) q934a q934c (g := (mkF m 69 #[.val (.int p1), .val (.int p2), .val (.int p3), .val (.int (1 : Int32)), .val (.int (1 : Int32)), .val (.ref b502_826), .val (.ref b502_907), .unset, .unset] [(.ref b910)])) rfl (by rw [hml]; rfl) (Steps.refl _) (argsL := []) (rest := []) (lenOf pd_21 rfl) rfl (by show 2 * 0 + _ ≤ _; exact Nat.le_of_eq rfl) (hb hby at_69) (fun _ _ => ⟨rfl, rfl, (by decide : 7 + 6 ≤ _), (by decide : 14 + 48 ≤ _)⟩)
      dsimp only [Pt.U, Pt.locs, Pt.cells, Pt.slots] at X934s hs934 hg934 l934 y934 z934 st934 hQ934 ch934
      subst l934 y934 z934
      have f937 := (Nat.le_trans (Nat.le_trans (Nat.le_refl _) E910.1) K916.1)
      obtain ⟨X934, hS934, hZ934, hown934⟩ := rebS hS907 (by exact f937) X934s hs934 hg934 hZ907 hown907
      obtain ⟨b267_404_934, b297_325_341_364_384_404_934, k297_325_341_364_384_404_934, rfl, N934q, K934, P934_0, P934_1, P934_2, P934_3, P934_4, P934_5, P934_6⟩ := hQ934
      have N938 := Fr.app N917 N934q
      have f939 := f935.trans ch934
      refine GoH.step (fun _ k => st934.trans k) ?_
      show GoH p e below s _ _ _ T934 (mkF m 72 #[.val (.int p1), .val (.int p2), .val (.int p3), .val (.int (1 : Int32)), .val (.int (1 : Int32)), .val (.ref b502_826), .val (.ref b502_907), .unset, .unset] [(.ref b267_404_934)])
      have f940 : Arv Z T934.heap b297_325_341_364_384_404_934 k297_325_341_364_384_404_934 .byte (3 : Int32) [(.int (nar .byte ((nar .char c0).toInt8.toInt32))), (.int (35 : Int32)), (.int (nar .byte ((nar .char c2).toInt8.toInt32)))] (.int (0 : Int32)) := P934_5
      refine GoH.step (fun _ k => XS.astore X934.here hx rfl (hb hby at_72) rfl rfl (l' := #[.val (.int p1), .val (.int p2), .val (.int p3), .val (.int (1 : Int32)), .val (.int (1 : Int32)), .val (.ref b502_826), .val (.ref b502_907), .val (.ref b267_404_934), .unset]) rfl (XS.aload X934.here hx rfl (hb hby at_74) rfl rfl (XS.ifnonnullYes X934.here hx rfl (pc0 := 76) (pc' := 81) rfl (hb hby at_76) rfl (by decide) (by decide) (XS.iloadN X934.here hx rfl (hb hby at_81) rfl (XS.iconst X934.here hx rfl (hb hby at_82) (XS.iadd X934.here hx rfl (hb hby at_83) rfl (XS.iload X934.here hx rfl (hb hby at_84) rfl (XS.iadd X934.here hx rfl (hb hby at_86) rfl (XS.istore X934.here hx rfl (hb hby at_87) rfl (l' := #[.val (.int p1), .val (.int p2), .val (.int p3), .val (.int (1 : Int32)), .val (.int (1 : Int32)), .val (.ref b502_826), .val (.ref b502_907), .val (.ref b267_404_934), .val (.int (3 : Int32))]) rfl (XS.aload X934.here hx rfl (hb hby at_89) rfl rfl k)))))))))) ?_
      show GoH p e below s _ _ _ T934 (mkF m 91 #[.val (.int p1), .val (.int p2), .val (.int p3), .val (.int (1 : Int32)), .val (.int (1 : Int32)), .val (.ref b502_826), .val (.ref b502_907), .val (.ref b267_404_934), .val (.int (3 : Int32))] [(.ref b267_404_934)])
      have f941 := (f918.keep K934 all0)
      have f942 := (Nat.le_trans f919 K934.1)
      obtain ⟨cq943, kq943, q943a, q943b, q943c⟩ := isOf hZ934 rfl P934_1
      obtain ⟨_, _, ⟨T943, L943, k943, n943⟩, -, X943, ⟨Lc943, hQ943, l943, y943, z943⟩, st943⟩ := X934.virtualBack hx (y := xm19) (z := xm19) hown934 (mvT hZ934 (tw159 hw)) (mvT hZ934 (tw76 hw)) (notFace_of_selects (args := #[]) (mvT hZ934 (tw78 hw))) (mvT hZ934 (tw78 hw)) (mvT hZ934 (tw77 hw)) (by decide) (backOf (W := 0) (rm_String_length_0 l Z a0 hw [] b267_404_934 b297_325_341_364_384_404_934 k297_325_341_364_384_404_934 (3 : Int32) ([(.int (nar .byte ((nar .char c0).toInt8.toInt32))), (.int (35 : Int32)), (.int (nar .byte ((nar .char c2).toInt8.toInt32)))]) cs T934.heap n0 f942 P934_2 f940 P934_1 Z_S_COMPACT_STRINGS f941 hcs P934_3) hZ934 (tw79 hw) (tw6 hw) (by decide) (by decide)) q943a q943c (g := (mkF m 91 #[.val (.int p1), .val (.int p2), .val (.int p3), .val (.int (1 : Int32)), .val (.int (1 : Int32)), .val (.ref b502_826), .val (.ref b502_907), .val (.ref b267_404_934), .val (.int (3 : Int32))] [(.ref b267_404_934)])) rfl (by rw [hml]; rfl) (Steps.refl _) (argsL := []) (rest := []) (lenOf pd_8 rfl) rfl (by show 2 * 0 + _ ≤ _; exact Nat.le_of_eq rfl) (hb hby at_91) (fun _ _ => ⟨rfl, rfl, (by decide : 13 + 0 ≤ _), (by decide : 62 + 0 ≤ _)⟩)
      dsimp only [Pt.U, Pt.locs, Pt.cells, Pt.slots] at X943 l943 y943 z943 st943 hQ943
      subst l943 y943 z943
      obtain ⟨rfl, N943q, eq943⟩ := hQ943
      have N944 := Fr.app N938 N943q
      refine GoH.step (fun _ k => st943.trans (XS.iload X943.here hx rfl (hb hby at_94) rfl (XS.icmpYes X943.here hx rfl (pc0 := 96) (pc' := 101) rfl (hb hby at_96) rfl (teq (by decide)).1 (by decide) (by decide) (XS.aload X943.here hx rfl (hb hby at_101) rfl rfl (XS.aload X943.here hx rfl (hb hby at_103) rfl rfl (XS.aload X943.here hx rfl (hb hby at_105) rfl rfl (XS.iconst X943.here hx rfl (hb hby at_107) k))))))) ?_
      show GoH p e below s _ _ _ T943 (mkF m 108 #[.val (.int p1), .val (.int p2), .val (.int p3), .val (.int (1 : Int32)), .val (.int (1 : Int32)), .val (.ref b502_826), .val (.ref b502_907), .val (.ref b267_404_934), .val (.int (3 : Int32))] [(.int (0 : Int32)), (.ref b502_907), (.ref b502_826), (.ref b267_404_934)])
      have f945 := (f920.keep K934)
      have f946 := (f923.keep K934 nin0)
      have f947 := (f926.keep K934 nin0)
      have f948 := (f927.keep K934 nin0)
      obtain ⟨_, _, ⟨T949, L949, k949, n949⟩, -, X949, ⟨Lc949, hQ949, l949, y949, z949⟩, st949⟩ := Jvm.LawKit.callS X943 hx (y := xm35) hown934 (mvT hZ934 (tw160 hw)) (mvT hZ934 (tw161 hw)) (mvT hZ934 (tw2 hw)) (mvT hZ934 (tw162 hw)) (by decide) (backOf (W := 0) (rm_SubjectSetTypeToStringPinLaw_ok_3 l Z a0 hw [] b267_404_934 b502_826 b502_907 (0 : Int32) b297_325_341_364_384_404_934 k297_325_341_364_384_404_934 (3 : Int32) ([(.int (nar .byte ((nar .char c0).toInt8.toInt32))), (.int (35 : Int32)), (.int (nar .byte ((nar .char c2).toInt8.toInt32)))]) cs b516_532_561_572_826 k516_532_561_572_826 (1 : Int32) ([(.int (nar .byte ((nar .char c0).toInt8.toInt32)))]) (nar .byte ((nar .char c0).toInt8.toInt32)) fv (nar .byte ((nar .char c0).toInt8.toInt32)) T934.heap n0 f942 P934_1 P934_2 f940 P934_3 Z_S_COMPACT_STRINGS f941 hcs (by decide) f945 f946 f947 f948 (by decide) rfl Z_S_SIOOBE_FORMATTER hfv (by decide) (by decide) rfl (by decide) rfl) hZ934 (tw162 hw) (tw2 hw) (by decide) (by decide)) (g := (mkF m 108 #[.val (.int p1), .val (.int p2), .val (.int p3), .val (.int (1 : Int32)), .val (.int (1 : Int32)), .val (.ref b502_826), .val (.ref b502_907), .val (.ref b267_404_934), .val (.int (3 : Int32))] [(.int (0 : Int32)), (.ref b502_907), (.ref b502_826), (.ref b267_404_934)])) rfl (by rw [hml]; rfl) (argsL := [(.ref b267_404_934), (.ref b502_826), (.ref b502_907), (.int (0 : Int32))]) (rest := []) (lenOf pd_24 rfl) rfl (by show 2 * 0 + _ ≤ _; exact Nat.le_of_eq rfl) (hb hby at_108) (fun _ _ => ⟨rfl, eq943, (by decide : 13 + 0 ≤ _), (by decide : 62 + 0 ≤ _)⟩)
      dsimp only [Pt.U, Pt.locs, Pt.cells, Pt.slots] at X949 l949 y949 z949 st949 hQ949
      subst l949 y949 z949
      obtain ⟨rfl, N949q, eq949⟩ := hQ949
      have N950 := Fr.app N944 N949q
      refine GoH.step (fun _ k => st949 _ (XS.ifNo X949.here hx rfl (hb hby at_111) rfl ((if0 _ _).trans (feq (by decide)).1) (XS.aload X949.here hx rfl (hb hby at_114) rfl rfl (XS.aload X949.here hx rfl (hb hby at_116) rfl rfl (XS.aload X949.here hx rfl (hb hby at_118) rfl rfl (XS.iconst X949.here hx rfl (hb hby at_120) k)))))) ?_
      show GoH p e below s _ _ _ T949 (mkF m 121 #[.val (.int p1), .val (.int p2), .val (.int p3), .val (.int (1 : Int32)), .val (.int (1 : Int32)), .val (.ref b502_826), .val (.ref b502_907), .val (.ref b267_404_934), .val (.int (3 : Int32))] [(.int (1 : Int32)), (.ref b502_907), (.ref b502_826), (.ref b267_404_934)])
      obtain ⟨_, _, ⟨T951, L951, k951, n951⟩, -, X951, ⟨Lc951, hQ951, l951, y951, z951⟩, st951⟩ := Jvm.LawKit.callS X949 hx (y := xm35) hown934 (mvT hZ934 (tw160 hw)) (mvT hZ934 (tw161 hw)) (mvT hZ934 (tw2 hw)) (mvT hZ934 (tw162 hw)) (by decide) (backOf (W := 0) (rm_SubjectSetTypeToStringPinLaw_ok_0 l Z a0 hw [] b267_404_934 b502_826 b502_907 (1 : Int32) b297_325_341_364_384_404_934 k297_325_341_364_384_404_934 (3 : Int32) ([(.int (nar .byte ((nar .char c0).toInt8.toInt32))), (.int (35 : Int32)), (.int (nar .byte ((nar .char c2).toInt8.toInt32)))]) cs b516_532_561_572_826 k516_532_561_572_826 (1 : Int32) ([(.int (nar .byte ((nar .char c0).toInt8.toInt32)))]) fv (35 : Int32) T934.heap n0 f942 P934_1 P934_2 f940 P934_3 Z_S_COMPACT_STRINGS f941 hcs (by decide) f945 f946 f947 f948 (by decide) (by decide) Z_S_SIOOBE_FORMATTER hfv rfl (by decide) (by decide) (by decide)) hZ934 (tw162 hw) (tw2 hw) (by decide) (by decide)) (g := (mkF m 121 #[.val (.int p1), .val (.int p2), .val (.int p3), .val (.int (1 : Int32)), .val (.int (1 : Int32)), .val (.ref b502_826), .val (.ref b502_907), .val (.ref b267_404_934), .val (.int (3 : Int32))] [(.int (1 : Int32)), (.ref b502_907), (.ref b502_826), (.ref b267_404_934)])) rfl (by rw [hml]; rfl) (argsL := [(.ref b267_404_934), (.ref b502_826), (.ref b502_907), (.int (1 : Int32))]) (rest := []) (lenOf pd_24 rfl) rfl (by show 2 * 0 + _ ≤ _; exact Nat.le_of_eq rfl) (hb hby at_121) (fun _ _ => ⟨rfl, eq949, (by decide : 13 + 0 ≤ _), (by decide : 62 + 0 ≤ _)⟩)
      dsimp only [Pt.U, Pt.locs, Pt.cells, Pt.slots] at X951 l951 y951 z951 st951 hQ951
      subst l951 y951 z951
      obtain ⟨rfl, N951q, eq951⟩ := hQ951
      have N952 := Fr.app N950 N951q
      refine GoH.step (fun _ k => st951 _ (XS.ifNo X951.here hx rfl (hb hby at_124) rfl ((if0 _ _).trans (feq (by decide)).1) (XS.aload X951.here hx rfl (hb hby at_127) rfl rfl (XS.aload X951.here hx rfl (hb hby at_129) rfl rfl (XS.aload X951.here hx rfl (hb hby at_131) rfl rfl (XS.iconst X951.here hx rfl (hb hby at_133) k)))))) ?_
      show GoH p e below s _ _ _ T951 (mkF m 134 #[.val (.int p1), .val (.int p2), .val (.int p3), .val (.int (1 : Int32)), .val (.int (1 : Int32)), .val (.ref b502_826), .val (.ref b502_907), .val (.ref b267_404_934), .val (.int (3 : Int32))] [(.int (2 : Int32)), (.ref b502_907), (.ref b502_826), (.ref b267_404_934)])
      have f953 := (f928.keep K934)
      have f954 := (f933.keep K934 nin0)
      have f955 := (f930.keep K934 nin0)
      have f956 := (f932.keep K934 nin0)
      obtain ⟨_, _, ⟨T957, L957, k957, n957⟩, -, X957, ⟨Lc957, hQ957, l957, y957, z957⟩, st957⟩ := Jvm.LawKit.callS X951 hx (y := xm35) hown934 (mvT hZ934 (tw160 hw)) (mvT hZ934 (tw161 hw)) (mvT hZ934 (tw2 hw)) (mvT hZ934 (tw162 hw)) (by decide) (backOf (W := 0) (rm_SubjectSetTypeToStringPinLaw_ok_2 l Z a0 hw [] b267_404_934 b502_826 b502_907 (2 : Int32) b297_325_341_364_384_404_934 k297_325_341_364_384_404_934 (3 : Int32) ([(.int (nar .byte ((nar .char c0).toInt8.toInt32))), (.int (35 : Int32)), (.int (nar .byte ((nar .char c2).toInt8.toInt32)))]) cs b516_532_561_572_826 k516_532_561_572_826 (1 : Int32) ([(.int (nar .byte ((nar .char c0).toInt8.toInt32)))]) b516_532_561_572_907 k516_532_561_572_907 (1 : Int32) ([(.int (nar .byte ((nar .char c2).toInt8.toInt32)))]) (nar .byte ((nar .char c2).toInt8.toInt32)) fv (nar .byte ((nar .char c2).toInt8.toInt32)) T934.heap n0 f942 P934_1 P934_2 f940 P934_3 Z_S_COMPACT_STRINGS f941 hcs (by decide) f945 f946 f947 f948 (by decide) (by decide) f953 f954 f955 f956 rfl Z_S_SIOOBE_FORMATTER hfv (by decide) (by decide) rfl (by decide) (by decide) rfl) hZ934 (tw162 hw) (tw2 hw) (by decide) (by decide)) (g := (mkF m 134 #[.val (.int p1), .val (.int p2), .val (.int p3), .val (.int (1 : Int32)), .val (.int (1 : Int32)), .val (.ref b502_826), .val (.ref b502_907), .val (.ref b267_404_934), .val (.int (3 : Int32))] [(.int (2 : Int32)), (.ref b502_907), (.ref b502_826), (.ref b267_404_934)])) rfl (by rw [hml]; rfl) (argsL := [(.ref b267_404_934), (.ref b502_826), (.ref b502_907), (.int (2 : Int32))]) (rest := []) (lenOf pd_24 rfl) rfl (by show 2 * 0 + _ ≤ _; exact Nat.le_of_eq rfl) (hb hby at_134) (fun _ _ => ⟨rfl, eq951, (by decide : 13 + 0 ≤ _), (by decide : 62 + 0 ≤ _)⟩)
      dsimp only [Pt.U, Pt.locs, Pt.cells, Pt.slots] at X957 l957 y957 z957 st957 hQ957
      subst l957 y957 z957
      obtain ⟨rfl, N957q, eq957⟩ := hQ957
      have N958 := Fr.app N952 N957q
      refine GoH.step (fun _ k => st957 _ (XS.ifNo X957.here hx rfl (hb hby at_137) rfl ((if0 _ _).trans (feq (by decide)).1) (XS.aload X957.here hx rfl (hb hby at_140) rfl rfl (XS.aload X957.here hx rfl (hb hby at_142) rfl rfl (XS.aload X957.here hx rfl (hb hby at_144) rfl rfl (XS.iconst X957.here hx rfl (hb hby at_146) k)))))) ?_
      show GoH p e below s _ _ _ T957 (mkF m 147 #[.val (.int p1), .val (.int p2), .val (.int p3), .val (.int (1 : Int32)), .val (.int (1 : Int32)), .val (.ref b502_826), .val (.ref b502_907), .val (.ref b267_404_934), .val (.int (3 : Int32))] [(.int (3 : Int32)), (.ref b502_907), (.ref b502_826), (.ref b267_404_934)])
      obtain ⟨_, _, ⟨T959, L959, k959, n959⟩, -, X959, ⟨Lc959, hQ959, l959, y959, z959⟩, st959⟩ := Jvm.LawKit.callS X957 hx (y := xm35) hown934 (mvT hZ934 (tw160 hw)) (mvT hZ934 (tw161 hw)) (mvT hZ934 (tw2 hw)) (mvT hZ934 (tw162 hw)) (by decide) (backOf (W := 0) (rm_SubjectSetTypeToStringPinLaw_ok_1 l Z a0 hw [] b267_404_934 b502_826 b502_907 (3 : Int32) b297_325_341_364_384_404_934 k297_325_341_364_384_404_934 (3 : Int32) ([(.int (nar .byte ((nar .char c0).toInt8.toInt32))), (.int (35 : Int32)), (.int (nar .byte ((nar .char c2).toInt8.toInt32)))]) cs T934.heap n0 f942 P934_1 P934_2 f940 P934_3 Z_S_COMPACT_STRINGS f941 hcs (by decide)) hZ934 (tw162 hw) (tw2 hw) (by decide) (by decide)) (g := (mkF m 147 #[.val (.int p1), .val (.int p2), .val (.int p3), .val (.int (1 : Int32)), .val (.int (1 : Int32)), .val (.ref b502_826), .val (.ref b502_907), .val (.ref b267_404_934), .val (.int (3 : Int32))] [(.int (3 : Int32)), (.ref b502_907), (.ref b502_826), (.ref b267_404_934)])) rfl (by rw [hml]; rfl) (argsL := [(.ref b267_404_934), (.ref b502_826), (.ref b502_907), (.int (3 : Int32))]) (rest := []) (lenOf pd_24 rfl) rfl (by show 2 * 0 + _ ≤ _; exact Nat.le_of_eq rfl) (hb hby at_147) (fun _ _ => ⟨rfl, eq957, (by decide : 13 + 0 ≤ _), (by decide : 62 + 0 ≤ _)⟩)
      dsimp only [Pt.U, Pt.locs, Pt.cells, Pt.slots] at X959 l959 y959 z959 st959 hQ959
      subst l959 y959 z959
      obtain ⟨rfl, N959q, eq959⟩ := hQ959
      have N960 := Fr.app N958 N959q
      refine GoH.step (fun _ k => st959 _ (XS.ifNo X959.here hx rfl (hb hby at_150) rfl ((if0 _ _).trans (feq (by decide)).1) (XS.aload X959.here hx rfl (hb hby at_153) rfl rfl (XS.aload X959.here hx rfl (hb hby at_155) rfl rfl (XS.aload X959.here hx rfl (hb hby at_157) rfl rfl (XS.iconst X959.here hx rfl (hb hby at_159) k)))))) ?_
      show GoH p e below s _ _ _ T959 (mkF m 160 #[.val (.int p1), .val (.int p2), .val (.int p3), .val (.int (1 : Int32)), .val (.int (1 : Int32)), .val (.ref b502_826), .val (.ref b502_907), .val (.ref b267_404_934), .val (.int (3 : Int32))] [(.int (4 : Int32)), (.ref b502_907), (.ref b502_826), (.ref b267_404_934)])
      obtain ⟨_, _, ⟨T961, L961, k961, n961⟩, -, X961, ⟨Lc961, hQ961, l961, y961, z961⟩, st961⟩ := Jvm.LawKit.callS X959 hx (y := xm35) hown934 (mvT hZ934 (tw160 hw)) (mvT hZ934 (tw161 hw)) (mvT hZ934 (tw2 hw)) (mvT hZ934 (tw162 hw)) (by decide) (backOf (W := 0) (rm_SubjectSetTypeToStringPinLaw_ok_1 l Z a0 hw [] b267_404_934 b502_826 b502_907 (4 : Int32) b297_325_341_364_384_404_934 k297_325_341_364_384_404_934 (3 : Int32) ([(.int (nar .byte ((nar .char c0).toInt8.toInt32))), (.int (35 : Int32)), (.int (nar .byte ((nar .char c2).toInt8.toInt32)))]) cs T934.heap n0 f942 P934_1 P934_2 f940 P934_3 Z_S_COMPACT_STRINGS f941 hcs (by decide)) hZ934 (tw162 hw) (tw2 hw) (by decide) (by decide)) (g := (mkF m 160 #[.val (.int p1), .val (.int p2), .val (.int p3), .val (.int (1 : Int32)), .val (.int (1 : Int32)), .val (.ref b502_826), .val (.ref b502_907), .val (.ref b267_404_934), .val (.int (3 : Int32))] [(.int (4 : Int32)), (.ref b502_907), (.ref b502_826), (.ref b267_404_934)])) rfl (by rw [hml]; rfl) (argsL := [(.ref b267_404_934), (.ref b502_826), (.ref b502_907), (.int (4 : Int32))]) (rest := []) (lenOf pd_24 rfl) rfl (by show 2 * 0 + _ ≤ _; exact Nat.le_of_eq rfl) (hb hby at_160) (fun _ _ => ⟨rfl, eq959, (by decide : 13 + 0 ≤ _), (by decide : 62 + 0 ≤ _)⟩)
      dsimp only [Pt.U, Pt.locs, Pt.cells, Pt.slots] at X961 l961 y961 z961 st961 hQ961
      subst l961 y961 z961
      obtain ⟨rfl, N961q, eq961⟩ := hQ961
      have N962 := Fr.app N960 N961q
      refine GoH.step (fun _ k => st961 _ (XS.ifNo X961.here hx rfl (hb hby at_163) rfl ((if0 _ _).trans (feq (by decide)).1) (XS.iconst X961.here hx rfl (hb hby at_166) (XS.goto X961.here hx rfl (pc0 := 167) (pc' := 171) rfl (hb hby at_167) (by decide) (by decide) k)))) ?_
      show GoH p e below s _ _ _ T961 (mkF m 171 #[.val (.int p1), .val (.int p2), .val (.int p3), .val (.int (1 : Int32)), .val (.int (1 : Int32)), .val (.ref b502_826), .val (.ref b502_907), .val (.ref b267_404_934), .val (.int (3 : Int32))] [(.int (1 : Int32))])
      exact GoH.retN X961 hS934 hx hlk (t := .boolean) Bd.returns (by simp) (hb hby at_171) eq961 (Nat.le_refl _) ⟨rfl, N962⟩ (f939.trans (CHv.at X961 hZ934 (own_EW hw) f939.1)) (by decide) (by decide)
    · show GoH p e below s _ _ _ T826 (mkF m 53 #[.val (.int p1), .val (.int p2), .val (.int p3), .val (.int (1 : Int32)), .val (.int (2 : Int32)), .val (.ref b502_826), .unset, .unset, .unset] [(.int c3), (.int c2), (.int (2 : Int32))])
      have f963 := (O0.keep K826 all0)
      have f964 := (Nat.le_trans Z0 K826.1)
      obtain ⟨_, _, ⟨T965, L965, k965, n965⟩, -, X965s, hs965, hg965, ⟨Lc965, hQ965, l965, y965, z965, ch965⟩, st965⟩ := callSS X826 hx (y := xm34) hown826 (mvT hZ826 (tw0 hw)) (mvT hZ826 (tw1 hw)) (mvT hZ826 (tw2 hw)) (mvT hZ826 (tw3 hw)) (by decide) (backOfSH (W := 0) (rm_SubjectSetTypeToStringPinLaw_mk_2 l Z a0 hw [] c2 c3 cs T826.heap n0 f964 Z_S_COMPACT_STRINGS f963 hcs hc2 hc3) hZ826 (tw3 hw) (tw2 hw) (by decide) (by decide) (own_EW hw) f828.1) (g := (mkF m 53 #[.val (.int p1), .val (.int p2), .val (.int p3), .val (.int (1 : Int32)), .val (.int (2 : Int32)), .val (.ref b502_826), .unset, .unset, .unset] [(.int c3), (.int c2), (.int (2 : Int32))])) rfl (by rw [hml]; rfl) (argsL := [(.int (2 : Int32)), (.int c2), (.int c3)]) (rest := []) (lenOf pd_3 rfl) rfl (by show 2 * 0 + _ ≤ _; exact Nat.le_of_eq rfl) (hb hby at_53) (fun _ _ => ⟨rfl, rfl, (by decide : 3 + 3 ≤ _), (by decide : 6 + 8 ≤ _)⟩)
      dsimp only [Pt.U, Pt.locs, Pt.cells, Pt.slots] at X965s hs965 hg965 l965 y965 z965 st965 hQ965 ch965
      subst l965 y965 z965
      obtain ⟨X965, hS965, hZ965, hown965⟩ := rebS hS826 (by exact (Nat.le_refl _)) X965s hs965 hg965 hZ826 hown826
      obtain ⟨b674_965, b692_714_744_755_965, k692_714_744_755_965, rfl, N965q, K965, P965_0, P965_1, P965_2, P965_3, P965_4, P965_5, P965_6⟩ := hQ965
      have N966 := Fr.app N827 N965q
      have f967 := f828.trans ch965
      refine GoH.step (fun _ k => st965.trans (XS.astore X965.here hx rfl (hb hby at_56) rfl rfl (l' := #[.val (.int p1), .val (.int p2), .val (.int p3), .val (.int (1 : Int32)), .val (.int (2 : Int32)), .val (.ref b502_826), .val (.ref b674_965), .unset, .unset]) rfl k)) ?_
      show GoH p e below s _ _ _ T965 (mkF m 58 #[.val (.int p1), .val (.int p2), .val (.int p3), .val (.int (1 : Int32)), .val (.int (2 : Int32)), .val (.ref b502_826), .val (.ref b674_965), .unset, .unset] [])
      obtain ⟨T968, h968, X968, e968, E968, A968, D968, -, st968⟩ := newO X965 hx hZ965 hown965 (tw26 hw) (tw27 hw) (tw28 hw) rfl (g := (mkF m 58 #[.val (.int p1), .val (.int p2), .val (.int p3), .val (.int (1 : Int32)), .val (.int (2 : Int32)), .val (.ref b502_826), .val (.ref b674_965), .unset, .unset] [])) rfl (hb hby at_58) (by decide) (by decide)
      obtain ⟨b968, g968⟩ : ∃ z, z = T965.heap.size := ⟨_, rfl⟩
      rw [← g968] at A968 D968 st968
      have f969 : Fld Z h968 b968 xs2 "type" xs21 .null := D968 (Or.inr (tw39 hw)) (ty := (.object xs25)) (by decide)
      have f970 : Fld Z h968 b968 xs2 "relation" xs21 .null := D968 (Or.inr (tw41 hw)) (ty := (.object xs25)) (by decide)
      refine GoH.step (fun _ k => st968 _ (XS.dup X968.here hx rfl (hb hby at_61) rfl rfl (XS.aload X968.here hx rfl (hb hby at_62) rfl rfl (XS.aload X968.here hx rfl (hb hby at_64) rfl rfl k)))) ?_
      show GoH p e below s _ _ _ T968 (mkF m 66 #[.val (.int p1), .val (.int p2), .val (.int p3), .val (.int (1 : Int32)), .val (.int (2 : Int32)), .val (.ref b502_826), .val (.ref b674_965), .unset, .unset] [(.ref b674_965), (.ref b502_826), (.ref b968), (.ref b968)])
      have f971 := (Nat.le_trans (Nat.le_trans f964 K965.1) E968.1)
      have f972 := (Nat.le_trans f964 K965.1)
      have g973 := Nat.le_trans f972 (Nat.le_of_eq g968.symm)
      obtain ⟨_, _, ⟨T974, L974, k974, n974⟩, -, X974, ⟨Lc974, hQ974, l974, y974, z974⟩, st974⟩ := X968.specialBack hx (y := xm31) rfl hown965 (mvT hZ965 (tw29 hw)) (mvT hZ965 (tw30 hw)) (mvT hZ965 (tw31 hw)) (by decide) (backOf (W := 1) (rm_SubjectSetType_new_0 l Z a0 hw [] b968 b502_826 b674_965 h968 n0 f971 A968 f969 g973 f970) hZ965 (tw31 hw) (tw28 hw) (by decide) (by decide)) (g := (mkF m 66 #[.val (.int p1), .val (.int p2), .val (.int p3), .val (.int (1 : Int32)), .val (.int (2 : Int32)), .val (.ref b502_826), .val (.ref b674_965), .unset, .unset] [(.ref b674_965), (.ref b502_826), (.ref b968), (.ref b968)])) rfl (by rw [hml]; rfl) (Steps.refl _) (a := b968) (argsL := [(.ref b502_826), (.ref b674_965)]) (rest := [(.ref b968)]) (lenOf pd_5 rfl) rfl (by show 2 * 0 + _ ≤ _; exact Nat.le_of_eq rfl) (hb hby at_66) (fun _ _ => ⟨rfl, e968, (by decide : 7 + 0 ≤ _), (by decide : 16 + 0 ≤ _)⟩)
      dsimp only [Pt.U, Pt.locs, Pt.cells, Pt.slots] at X974 l974 y974 z974 st974 hQ974
      subst l974 y974 z974
      obtain ⟨rfl, N974q, K974, P974_0, P974_1⟩ := hQ974
      have N975 := Fr.app N966 N974q
      refine GoH.step (fun _ k => st974.trans k) ?_
      show GoH p e below s _ _ _ T974 (mkF m 69 #[.val (.int p1), .val (.int p2), .val (.int p3), .val (.int (1 : Int32)), .val (.int (2 : Int32)), .val (.ref b502_826), .val (.ref b674_965), .unset, .unset] [(.ref b968)])
      have f976 := (((f963.keep K965 all0).ext E968).keep K974 (allS g973 all0))
      have f977 := (Nat.le_trans f971 K974.1)
      have f978 := (((P826_1.keep K965).ext E968).keep K974)
      have f979 := (P826_1.keep K965)
      have ne980 : b502_826 ≠ b968 := Nat.ne_of_lt (Nat.lt_of_lt_of_le f979.lt (Nat.le_of_eq g968.symm))
      have f981 := (((P826_2.keep K965 nin0).ext E968).keep K974 (ninS ne980 nin0))
      have f982 := (P826_5.keep K965 nin0)
      have ne983 : b516_532_561_572_826 ≠ b968 := Nat.ne_of_lt (Nat.lt_of_lt_of_le f982.lt (Nat.le_of_eq g968.symm))
      have f984 := (((P826_5.keep K965 nin0).ext E968).keep K974 (ninS ne983 nin0))
      have f985 := (((P826_3.keep K965 nin0).ext E968).keep K974 (ninS ne980 nin0))
      have f986 := ((P965_1.ext E968).keep K974)
      have ne987 : b674_965 ≠ b968 := Nat.ne_of_lt (Nat.lt_of_lt_of_le P965_1.lt (Nat.le_of_eq g968.symm))
      have f988 := ((P965_2.ext E968).keep K974 (ninS ne987 nin0))
      have ne989 : b692_714_744_755_965 ≠ b968 := Nat.ne_of_lt (Nat.lt_of_lt_of_le P965_5.lt (Nat.le_of_eq g968.symm))
      have f990 := ((P965_5.ext E968).keep K974 (ninS ne989 nin0))
      have f991 := ((P965_3.ext E968).keep K974 (ninS ne987 nin0))
      have f993 := (own_chK (own_chE f967 E968) K974 (sfS (Safe.exa hZ965.alike A968 (by decide) (by decide)) sf0))
      have f994 := (A968.keep K974)
      obtain ⟨cq992, kq992, q992a, q992b, q992c⟩ := isOf hZ965 rfl f994
      obtain ⟨_, _, ⟨T992, L992, k992, n992⟩, -, X992s, hs992, hg992, ⟨Lc992, hQ992, l992, y992, z992, ch992⟩, st992⟩ := X974.virtualBackS hx (y := xm22) (z := xm22) hown965 (mvT hZ965 (tw42 hw)) (mvT hZ965 (tw43 hw)) (notFace_of_selects (args := #[]) (mvT hZ965 (tw45 hw))) (mvT hZ965 (tw45 hw)) (mvT hZ965 (tw44 hw)) (by decide) (backOfSH (W := 0) (rm_SubjectSetType_toString_0 l Z a0 hw [] b968 cs b502_826 b516_532_561_572_826 k516_532_561_572_826 (1 : Int32) ([(.int (nar .byte ((nar .char c0).toInt8.toInt32)))]) b674_965 b692_714_744_755_965 k692_714_744_755_965 (2 : Int32) ([(.int (nar .byte ((nar .char c2).toInt8.toInt32))), (.int (nar .byte ((nar .char c3).toInt8.toInt32)))]) T974.heap n0 f977 Z_S_COMPACT_STRINGS f976 hcs P974_0 f978 f981 f984 f985 (by decide) (by decide) (Nat.le_of_ble_eq_true rfl) (Nat.le_of_ble_eq_true rfl) (Nat.le_of_ble_eq_true rfl) (by decide) (by decide) (Nat.le_of_ble_eq_true rfl) (Nat.le_of_ble_eq_true rfl) P974_1 f986 f988 f990 f991 (by decide) (by decide) (by decide) (Nat.le_of_ble_eq_true rfl) (Nat.le_of_ble_eq_true rfl) (Nat.le_of_ble_eq_true rfl) (by decide) (by decide) (by decide) (Nat.le_of_ble_eq_true rfl) (by decide) (Nat.le_of_ble_eq_true rfl) (Nat.le_of_ble_eq_true rfl) (Nat.le_of_ble_eq_true rfl)) hZ965 (tw46 hw) (tw28 hw) (by decide) (by decide) (own_EW hw) f993.1) q992a q992c (g := (mkF m 69 #[.val (.int p1), .val (.int p2), .val (.int p3), .val (.int (1 : Int32)), .val (.int (2 : Int32)), .val (.ref b502_826), .val (.ref b674_965), .unset, .unset] [(.ref b968)])) rfl (by rw [hml]; rfl) (Steps.refl _) (argsL := []) (rest := []) (lenOf pd_21 rfl) rfl (by show 2 * 0 + _ ≤ _; exact Nat.le_of_eq rfl) (hb hby at_69) (fun _ _ => ⟨rfl, rfl, (by decide : 7 + 6 ≤ _), (by decide : 16 + 48 ≤ _)⟩)
      dsimp only [Pt.U, Pt.locs, Pt.cells, Pt.slots] at X992s hs992 hg992 l992 y992 z992 st992 hQ992 ch992
      subst l992 y992 z992
      have f995 := (Nat.le_trans (Nat.le_trans (Nat.le_refl _) E968.1) K974.1)
      obtain ⟨X992, hS992, hZ992, hown992⟩ := rebS hS965 (by exact f995) X992s hs992 hg992 hZ965 hown965
      obtain ⟨b267_404_992, b297_325_341_364_384_404_992, k297_325_341_364_384_404_992, rfl, N992q, K992, P992_0, P992_1, P992_2, P992_3, P992_4, P992_5, P992_6⟩ := hQ992
      have N996 := Fr.app N975 N992q
      have f997 := f993.trans ch992
      refine GoH.step (fun _ k => st992.trans k) ?_
      show GoH p e below s _ _ _ T992 (mkF m 72 #[.val (.int p1), .val (.int p2), .val (.int p3), .val (.int (1 : Int32)), .val (.int (2 : Int32)), .val (.ref b502_826), .val (.ref b674_965), .unset, .unset] [(.ref b267_404_992)])
      have f998 : Arv Z T992.heap b297_325_341_364_384_404_992 k297_325_341_364_384_404_992 .byte (4 : Int32) [(.int (nar .byte ((nar .char c0).toInt8.toInt32))), (.int (35 : Int32)), (.int (nar .byte ((nar .char c2).toInt8.toInt32))), (.int (nar .byte ((nar .char c3).toInt8.toInt32)))] (.int (0 : Int32)) := P992_5
      refine GoH.step (fun _ k => XS.astore X992.here hx rfl (hb hby at_72) rfl rfl (l' := #[.val (.int p1), .val (.int p2), .val (.int p3), .val (.int (1 : Int32)), .val (.int (2 : Int32)), .val (.ref b502_826), .val (.ref b674_965), .val (.ref b267_404_992), .unset]) rfl (XS.aload X992.here hx rfl (hb hby at_74) rfl rfl (XS.ifnonnullYes X992.here hx rfl (pc0 := 76) (pc' := 81) rfl (hb hby at_76) rfl (by decide) (by decide) (XS.iloadN X992.here hx rfl (hb hby at_81) rfl (XS.iconst X992.here hx rfl (hb hby at_82) (XS.iadd X992.here hx rfl (hb hby at_83) rfl (XS.iload X992.here hx rfl (hb hby at_84) rfl (XS.iadd X992.here hx rfl (hb hby at_86) rfl (XS.istore X992.here hx rfl (hb hby at_87) rfl (l' := #[.val (.int p1), .val (.int p2), .val (.int p3), .val (.int (1 : Int32)), .val (.int (2 : Int32)), .val (.ref b502_826), .val (.ref b674_965), .val (.ref b267_404_992), .val (.int (4 : Int32))]) rfl (XS.aload X992.here hx rfl (hb hby at_89) rfl rfl k)))))))))) ?_
      show GoH p e below s _ _ _ T992 (mkF m 91 #[.val (.int p1), .val (.int p2), .val (.int p3), .val (.int (1 : Int32)), .val (.int (2 : Int32)), .val (.ref b502_826), .val (.ref b674_965), .val (.ref b267_404_992), .val (.int (4 : Int32))] [(.ref b267_404_992)])
      have f999 := (f976.keep K992 all0)
      have f1000 := (Nat.le_trans f977 K992.1)
      obtain ⟨cq1001, kq1001, q1001a, q1001b, q1001c⟩ := isOf hZ992 rfl P992_1
      obtain ⟨_, _, ⟨T1001, L1001, k1001, n1001⟩, -, X1001, ⟨Lc1001, hQ1001, l1001, y1001, z1001⟩, st1001⟩ := X992.virtualBack hx (y := xm19) (z := xm19) hown992 (mvT hZ992 (tw159 hw)) (mvT hZ992 (tw76 hw)) (notFace_of_selects (args := #[]) (mvT hZ992 (tw78 hw))) (mvT hZ992 (tw78 hw)) (mvT hZ992 (tw77 hw)) (by decide) (backOf (W := 0) (rm_String_length_0 l Z a0 hw [] b267_404_992 b297_325_341_364_384_404_992 k297_325_341_364_384_404_992 (4 : Int32) ([(.int (nar .byte ((nar .char c0).toInt8.toInt32))), (.int (35 : Int32)), (.int (nar .byte ((nar .char c2).toInt8.toInt32))), (.int (nar .byte ((nar .char c3).toInt8.toInt32)))]) cs T992.heap n0 f1000 P992_2 f998 P992_1 Z_S_COMPACT_STRINGS f999 hcs P992_3) hZ992 (tw79 hw) (tw6 hw) (by decide) (by decide)) q1001a q1001c (g := (mkF m 91 #[.val (.int p1), .val (.int p2), .val (.int p3), .val (.int (1 : Int32)), .val (.int (2 : Int32)), .val (.ref b502_826), .val (.ref b674_965), .val (.ref b267_404_992), .val (.int (4 : Int32))] [(.ref b267_404_992)])) rfl (by rw [hml]; rfl) (Steps.refl _) (argsL := []) (rest := []) (lenOf pd_8 rfl) rfl (by show 2 * 0 + _ ≤ _; exact Nat.le_of_eq rfl) (hb hby at_91) (fun _ _ => ⟨rfl, rfl, (by decide : 13 + 0 ≤ _), (by decide : 64 + 0 ≤ _)⟩)
      dsimp only [Pt.U, Pt.locs, Pt.cells, Pt.slots] at X1001 l1001 y1001 z1001 st1001 hQ1001
      subst l1001 y1001 z1001
      obtain ⟨rfl, N1001q, eq1001⟩ := hQ1001
      have N1002 := Fr.app N996 N1001q
      refine GoH.step (fun _ k => st1001.trans (XS.iload X1001.here hx rfl (hb hby at_94) rfl (XS.icmpYes X1001.here hx rfl (pc0 := 96) (pc' := 101) rfl (hb hby at_96) rfl (teq (by decide)).1 (by decide) (by decide) (XS.aload X1001.here hx rfl (hb hby at_101) rfl rfl (XS.aload X1001.here hx rfl (hb hby at_103) rfl rfl (XS.aload X1001.here hx rfl (hb hby at_105) rfl rfl (XS.iconst X1001.here hx rfl (hb hby at_107) k))))))) ?_
      show GoH p e below s _ _ _ T1001 (mkF m 108 #[.val (.int p1), .val (.int p2), .val (.int p3), .val (.int (1 : Int32)), .val (.int (2 : Int32)), .val (.ref b502_826), .val (.ref b674_965), .val (.ref b267_404_992), .val (.int (4 : Int32))] [(.int (0 : Int32)), (.ref b674_965), (.ref b502_826), (.ref b267_404_992)])
      have f1003 := (f978.keep K992)
      have f1004 := (f981.keep K992 nin0)
      have f1005 := (f984.keep K992 nin0)
      have f1006 := (f985.keep K992 nin0)
      obtain ⟨_, _, ⟨T1007, L1007, k1007, n1007⟩, -, X1007, ⟨Lc1007, hQ1007, l1007, y1007, z1007⟩, st1007⟩ := Jvm.LawKit.callS X1001 hx (y := xm35) hown992 (mvT hZ992 (tw160 hw)) (mvT hZ992 (tw161 hw)) (mvT hZ992 (tw2 hw)) (mvT hZ992 (tw162 hw)) (by decide) (backOf (W := 0) (rm_SubjectSetTypeToStringPinLaw_ok_3 l Z a0 hw [] b267_404_992 b502_826 b674_965 (0 : Int32) b297_325_341_364_384_404_992 k297_325_341_364_384_404_992 (4 : Int32) ([(.int (nar .byte ((nar .char c0).toInt8.toInt32))), (.int (35 : Int32)), (.int (nar .byte ((nar .char c2).toInt8.toInt32))), (.int (nar .byte ((nar .char c3).toInt8.toInt32)))]) cs b516_532_561_572_826 k516_532_561_572_826 (1 : Int32) ([(.int (nar .byte ((nar .char c0).toInt8.toInt32)))]) (nar .byte ((nar .char c0).toInt8.toInt32)) fv (nar .byte ((nar .char c0).toInt8.toInt32)) T992.heap n0 f1000 P992_1 P992_2 f998 P992_3 Z_S_COMPACT_STRINGS f999 hcs (by decide) f1003 f1004 f1005 f1006 (by decide) rfl Z_S_SIOOBE_FORMATTER hfv (by decide) (by decide) rfl (by decide) rfl) hZ992 (tw162 hw) (tw2 hw) (by decide) (by decide)) (g := (mkF m 108 #[.val (.int p1), .val (.int p2), .val (.int p3), .val (.int (1 : Int32)), .val (.int (2 : Int32)), .val (.ref b502_826), .val (.ref b674_965), .val (.ref b267_404_992), .val (.int (4 : Int32))] [(.int (0 : Int32)), (.ref b674_965), (.ref b502_826), (.ref b267_404_992)])) rfl (by rw [hml]; rfl) (argsL := [(.ref b267_404_992), (.ref b502_826), (.ref b674_965), (.int (0 : Int32))]) (rest := []) (lenOf pd_24 rfl) rfl (by show 2 * 0 + _ ≤ _; exact Nat.le_of_eq rfl) (hb hby at_108) (fun _ _ => ⟨rfl, eq1001, (by decide : 13 + 0 ≤ _), (by decide : 64 + 0 ≤ _)⟩)
      dsimp only [Pt.U, Pt.locs, Pt.cells, Pt.slots] at X1007 l1007 y1007 z1007 st1007 hQ1007
      subst l1007 y1007 z1007
      obtain ⟨rfl, N1007q, eq1007⟩ := hQ1007
      have N1008 := Fr.app N1002 N1007q
      refine GoH.step (fun _ k => st1007 _ (XS.ifNo X1007.here hx rfl (hb hby at_111) rfl ((if0 _ _).trans (feq (by decide)).1) (XS.aload X1007.here hx rfl (hb hby at_114) rfl rfl (XS.aload X1007.here hx rfl (hb hby at_116) rfl rfl (XS.aload X1007.here hx rfl (hb hby at_118) rfl rfl (XS.iconst X1007.here hx rfl (hb hby at_120) k)))))) ?_
      show GoH p e below s _ _ _ T1007 (mkF m 121 #[.val (.int p1), .val (.int p2), .val (.int p3), .val (.int (1 : Int32)), .val (.int (2 : Int32)), .val (.ref b502_826), .val (.ref b674_965), .val (.ref b267_404_992), .val (.int (4 : Int32))] [(.int (1 : Int32)), (.ref b674_965), (.ref b502_826), (.ref b267_404_992)])
      obtain ⟨_, _, ⟨T1009, L1009, k1009, n1009⟩, -, X1009, ⟨Lc1009, hQ1009, l1009, y1009, z1009⟩, st1009⟩ := Jvm.LawKit.callS X1007 hx (y := xm35) hown992 (mvT hZ992 (tw160 hw)) (mvT hZ992 (tw161 hw)) (mvT hZ992 (tw2 hw)) (mvT hZ992 (tw162 hw)) (by decide) (backOf (W := 0) (rm_SubjectSetTypeToStringPinLaw_ok_0 l Z a0 hw [] b267_404_992 b502_826 b674_965 (1 : Int32) b297_325_341_364_384_404_992 k297_325_341_364_384_404_992 (4 : Int32) ([(.int (nar .byte ((nar .char c0).toInt8.toInt32))), (.int (35 : Int32)), (.int (nar .byte ((nar .char c2).toInt8.toInt32))), (.int (nar .byte ((nar .char c3).toInt8.toInt32)))]) cs b516_532_561_572_826 k516_532_561_572_826 (1 : Int32) ([(.int (nar .byte ((nar .char c0).toInt8.toInt32)))]) fv (35 : Int32) T992.heap n0 f1000 P992_1 P992_2 f998 P992_3 Z_S_COMPACT_STRINGS f999 hcs (by decide) f1003 f1004 f1005 f1006 (by decide) (by decide) Z_S_SIOOBE_FORMATTER hfv rfl (by decide) (by decide) (by decide)) hZ992 (tw162 hw) (tw2 hw) (by decide) (by decide)) (g := (mkF m 121 #[.val (.int p1), .val (.int p2), .val (.int p3), .val (.int (1 : Int32)), .val (.int (2 : Int32)), .val (.ref b502_826), .val (.ref b674_965), .val (.ref b267_404_992), .val (.int (4 : Int32))] [(.int (1 : Int32)), (.ref b674_965), (.ref b502_826), (.ref b267_404_992)])) rfl (by rw [hml]; rfl) (argsL := [(.ref b267_404_992), (.ref b502_826), (.ref b674_965), (.int (1 : Int32))]) (rest := []) (lenOf pd_24 rfl) rfl (by show 2 * 0 + _ ≤ _; exact Nat.le_of_eq rfl) (hb hby at_121) (fun _ _ => ⟨rfl, eq1007, (by decide : 13 + 0 ≤ _), (by decide : 64 + 0 ≤ _)⟩)
      dsimp only [Pt.U, Pt.locs, Pt.cells, Pt.slots] at X1009 l1009 y1009 z1009 st1009 hQ1009
      subst l1009 y1009 z1009
      obtain ⟨rfl, N1009q, eq1009⟩ := hQ1009
      have N1010 := Fr.app N1008 N1009q
      refine GoH.step (fun _ k => st1009 _ (XS.ifNo X1009.here hx rfl (hb hby at_124) rfl ((if0 _ _).trans (feq (by decide)).1) (XS.aload X1009.here hx rfl (hb hby at_127) rfl rfl (XS.aload X1009.here hx rfl (hb hby at_129) rfl rfl (XS.aload X1009.here hx rfl (hb hby at_131) rfl rfl (XS.iconst X1009.here hx rfl (hb hby at_133) k)))))) ?_
      show GoH p e below s _ _ _ T1009 (mkF m 134 #[.val (.int p1), .val (.int p2), .val (.int p3), .val (.int (1 : Int32)), .val (.int (2 : Int32)), .val (.ref b502_826), .val (.ref b674_965), .val (.ref b267_404_992), .val (.int (4 : Int32))] [(.int (2 : Int32)), (.ref b674_965), (.ref b502_826), (.ref b267_404_992)])
      have f1011 := (f986.keep K992)
      have f1012 := (f991.keep K992 nin0)
      have f1013 := (f988.keep K992 nin0)
      have f1014 := (f990.keep K992 nin0)
      obtain ⟨_, _, ⟨T1015, L1015, k1015, n1015⟩, -, X1015, ⟨Lc1015, hQ1015, l1015, y1015, z1015⟩, st1015⟩ := Jvm.LawKit.callS X1009 hx (y := xm35) hown992 (mvT hZ992 (tw160 hw)) (mvT hZ992 (tw161 hw)) (mvT hZ992 (tw2 hw)) (mvT hZ992 (tw162 hw)) (by decide) (backOf (W := 0) (rm_SubjectSetTypeToStringPinLaw_ok_2 l Z a0 hw [] b267_404_992 b502_826 b674_965 (2 : Int32) b297_325_341_364_384_404_992 k297_325_341_364_384_404_992 (4 : Int32) ([(.int (nar .byte ((nar .char c0).toInt8.toInt32))), (.int (35 : Int32)), (.int (nar .byte ((nar .char c2).toInt8.toInt32))), (.int (nar .byte ((nar .char c3).toInt8.toInt32)))]) cs b516_532_561_572_826 k516_532_561_572_826 (1 : Int32) ([(.int (nar .byte ((nar .char c0).toInt8.toInt32)))]) b692_714_744_755_965 k692_714_744_755_965 (2 : Int32) ([(.int (nar .byte ((nar .char c2).toInt8.toInt32))), (.int (nar .byte ((nar .char c3).toInt8.toInt32)))]) (nar .byte ((nar .char c2).toInt8.toInt32)) fv (nar .byte ((nar .char c2).toInt8.toInt32)) T992.heap n0 f1000 P992_1 P992_2 f998 P992_3 Z_S_COMPACT_STRINGS f999 hcs (by decide) f1003 f1004 f1005 f1006 (by decide) (by decide) f1011 f1012 f1013 f1014 rfl Z_S_SIOOBE_FORMATTER hfv (by decide) (by decide) rfl (by decide) (by decide) rfl) hZ992 (tw162 hw) (tw2 hw) (by decide) (by decide)) (g := (mkF m 134 #[.val (.int p1), .val (.int p2), .val (.int p3), .val (.int (1 : Int32)), .val (.int (2 : Int32)), .val (.ref b502_826), .val (.ref b674_965), .val (.ref b267_404_992), .val (.int (4 : Int32))] [(.int (2 : Int32)), (.ref b674_965), (.ref b502_826), (.ref b267_404_992)])) rfl (by rw [hml]; rfl) (argsL := [(.ref b267_404_992), (.ref b502_826), (.ref b674_965), (.int (2 : Int32))]) (rest := []) (lenOf pd_24 rfl) rfl (by show 2 * 0 + _ ≤ _; exact Nat.le_of_eq rfl) (hb hby at_134) (fun _ _ => ⟨rfl, eq1009, (by decide : 13 + 0 ≤ _), (by decide : 64 + 0 ≤ _)⟩)
      dsimp only [Pt.U, Pt.locs, Pt.cells, Pt.slots] at X1015 l1015 y1015 z1015 st1015 hQ1015
      subst l1015 y1015 z1015
      obtain ⟨rfl, N1015q, eq1015⟩ := hQ1015
      have N1016 := Fr.app N1010 N1015q
      refine GoH.step (fun _ k => st1015 _ (XS.ifNo X1015.here hx rfl (hb hby at_137) rfl ((if0 _ _).trans (feq (by decide)).1) (XS.aload X1015.here hx rfl (hb hby at_140) rfl rfl (XS.aload X1015.here hx rfl (hb hby at_142) rfl rfl (XS.aload X1015.here hx rfl (hb hby at_144) rfl rfl (XS.iconst X1015.here hx rfl (hb hby at_146) k)))))) ?_
      show GoH p e below s _ _ _ T1015 (mkF m 147 #[.val (.int p1), .val (.int p2), .val (.int p3), .val (.int (1 : Int32)), .val (.int (2 : Int32)), .val (.ref b502_826), .val (.ref b674_965), .val (.ref b267_404_992), .val (.int (4 : Int32))] [(.int (3 : Int32)), (.ref b674_965), (.ref b502_826), (.ref b267_404_992)])
      obtain ⟨_, _, ⟨T1017, L1017, k1017, n1017⟩, -, X1017, ⟨Lc1017, hQ1017, l1017, y1017, z1017⟩, st1017⟩ := Jvm.LawKit.callS X1015 hx (y := xm35) hown992 (mvT hZ992 (tw160 hw)) (mvT hZ992 (tw161 hw)) (mvT hZ992 (tw2 hw)) (mvT hZ992 (tw162 hw)) (by decide) (backOf (W := 0) (rm_SubjectSetTypeToStringPinLaw_ok_2 l Z a0 hw [] b267_404_992 b502_826 b674_965 (3 : Int32) b297_325_341_364_384_404_992 k297_325_341_364_384_404_992 (4 : Int32) ([(.int (nar .byte ((nar .char c0).toInt8.toInt32))), (.int (35 : Int32)), (.int (nar .byte ((nar .char c2).toInt8.toInt32))), (.int (nar .byte ((nar .char c3).toInt8.toInt32)))]) cs b516_532_561_572_826 k516_532_561_572_826 (1 : Int32) ([(.int (nar .byte ((nar .char c0).toInt8.toInt32)))]) b692_714_744_755_965 k692_714_744_755_965 (2 : Int32) ([(.int (nar .byte ((nar .char c2).toInt8.toInt32))), (.int (nar .byte ((nar .char c3).toInt8.toInt32)))]) (nar .byte ((nar .char c3).toInt8.toInt32)) fv (nar .byte ((nar .char c3).toInt8.toInt32)) T992.heap n0 f1000 P992_1 P992_2 f998 P992_3 Z_S_COMPACT_STRINGS f999 hcs (by decide) f1003 f1004 f1005 f1006 (by decide) (by decide) f1011 f1012 f1013 f1014 rfl Z_S_SIOOBE_FORMATTER hfv (by decide) (by decide) rfl (by decide) (by decide) rfl) hZ992 (tw162 hw) (tw2 hw) (by decide) (by decide)) (g := (mkF m 147 #[.val (.int p1), .val (.int p2), .val (.int p3), .val (.int (1 : Int32)), .val (.int (2 : Int32)), .val (.ref b502_826), .val (.ref b674_965), .val (.ref b267_404_992), .val (.int (4 : Int32))] [(.int (3 : Int32)), (.ref b674_965), (.ref b502_826), (.ref b267_404_992)])) rfl (by rw [hml]; rfl) (argsL := [(.ref b267_404_992), (.ref b502_826), (.ref b674_965), (.int (3 : Int32))]) (rest := []) (lenOf pd_24 rfl) rfl (by show 2 * 0 + _ ≤ _; exact Nat.le_of_eq rfl) (hb hby at_147) (fun _ _ => ⟨rfl, eq1015, (by decide : 13 + 0 ≤ _), (by decide : 64 + 0 ≤ _)⟩)
      dsimp only [Pt.U, Pt.locs, Pt.cells, Pt.slots] at X1017 l1017 y1017 z1017 st1017 hQ1017
      subst l1017 y1017 z1017
      obtain ⟨rfl, N1017q, eq1017⟩ := hQ1017
      have N1018 := Fr.app N1016 N1017q
      refine GoH.step (fun _ k => st1017 _ (XS.ifNo X1017.here hx rfl (hb hby at_150) rfl ((if0 _ _).trans (feq (by decide)).1) (XS.aload X1017.here hx rfl (hb hby at_153) rfl rfl (XS.aload X1017.here hx rfl (hb hby at_155) rfl rfl (XS.aload X1017.here hx rfl (hb hby at_157) rfl rfl (XS.iconst X1017.here hx rfl (hb hby at_159) k)))))) ?_
      show GoH p e below s _ _ _ T1017 (mkF m 160 #[.val (.int p1), .val (.int p2), .val (.int p3), .val (.int (1 : Int32)), .val (.int (2 : Int32)), .val (.ref b502_826), .val (.ref b674_965), .val (.ref b267_404_992), .val (.int (4 : Int32))] [(.int (4 : Int32)), (.ref b674_965), (.ref b502_826), (.ref b267_404_992)])
      obtain ⟨_, _, ⟨T1019, L1019, k1019, n1019⟩, -, X1019, ⟨Lc1019, hQ1019, l1019, y1019, z1019⟩, st1019⟩ := Jvm.LawKit.callS X1017 hx (y := xm35) hown992 (mvT hZ992 (tw160 hw)) (mvT hZ992 (tw161 hw)) (mvT hZ992 (tw2 hw)) (mvT hZ992 (tw162 hw)) (by decide) (backOf (W := 0) (rm_SubjectSetTypeToStringPinLaw_ok_1 l Z a0 hw [] b267_404_992 b502_826 b674_965 (4 : Int32) b297_325_341_364_384_404_992 k297_325_341_364_384_404_992 (4 : Int32) ([(.int (nar .byte ((nar .char c0).toInt8.toInt32))), (.int (35 : Int32)), (.int (nar .byte ((nar .char c2).toInt8.toInt32))), (.int (nar .byte ((nar .char c3).toInt8.toInt32)))]) cs T992.heap n0 f1000 P992_1 P992_2 f998 P992_3 Z_S_COMPACT_STRINGS f999 hcs (by decide)) hZ992 (tw162 hw) (tw2 hw) (by decide) (by decide)) (g := (mkF m 160 #[.val (.int p1), .val (.int p2), .val (.int p3), .val (.int (1 : Int32)), .val (.int (2 : Int32)), .val (.ref b502_826), .val (.ref b674_965), .val (.ref b267_404_992), .val (.int (4 : Int32))] [(.int (4 : Int32)), (.ref b674_965), (.ref b502_826), (.ref b267_404_992)])) rfl (by rw [hml]; rfl) (argsL := [(.ref b267_404_992), (.ref b502_826), (.ref b674_965), (.int (4 : Int32))]) (rest := []) (lenOf pd_24 rfl) rfl (by show 2 * 0 + _ ≤ _; exact Nat.le_of_eq rfl) (hb hby at_160) (fun _ _ => ⟨rfl, eq1017, (by decide : 13 + 0 ≤ _), (by decide : 64 + 0 ≤ _)⟩)
      dsimp only [Pt.U, Pt.locs, Pt.cells, Pt.slots] at X1019 l1019 y1019 z1019 st1019 hQ1019
      subst l1019 y1019 z1019
      obtain ⟨rfl, N1019q, eq1019⟩ := hQ1019
      have N1020 := Fr.app N1018 N1019q
      refine GoH.step (fun _ k => st1019 _ (XS.ifNo X1019.here hx rfl (hb hby at_163) rfl ((if0 _ _).trans (feq (by decide)).1) (XS.iconst X1019.here hx rfl (hb hby at_166) (XS.goto X1019.here hx rfl (pc0 := 167) (pc' := 171) rfl (hb hby at_167) (by decide) (by decide) k)))) ?_
      show GoH p e below s _ _ _ T1019 (mkF m 171 #[.val (.int p1), .val (.int p2), .val (.int p3), .val (.int (1 : Int32)), .val (.int (2 : Int32)), .val (.ref b502_826), .val (.ref b674_965), .val (.ref b267_404_992), .val (.int (4 : Int32))] [(.int (1 : Int32))])
      exact GoH.retN X1019 hS992 hx hlk (t := .boolean) Bd.returns (by simp) (hb hby at_171) eq1019 (Nat.le_refl _) ⟨rfl, N1020⟩ (f997.trans (CHv.at X1019 hZ992 (own_EW hw) f997.1)) (by decide) (by decide)
  · show GoH p e below s _ _ _ s₁ (mkF m 31 #[.val (.int p1), .val (.int p2), .val (.int p3), .val (.int (2 : Int32)), .val (.int rl), .unset, .unset, .unset, .unset] [(.int c1), (.int c0), (.int (2 : Int32))])
    obtain ⟨_, _, ⟨T1021, L1021, k1021, n1021⟩, -, X1021s, hs1021, hg1021, ⟨Lc1021, hQ1021, l1021, y1021, z1021, ch1021⟩, st1021⟩ := callSS X0 hx (y := xm34) hown (mvT hZ (tw0 hw)) (mvT hZ (tw1 hw)) (mvT hZ (tw2 hw)) (mvT hZ (tw3 hw)) (by decide) (backOfSH (W := 0) (rm_SubjectSetTypeToStringPinLaw_mk_2 l Z a0 hw [] c0 c1 cs h0 n0 Z0 Z_S_COMPACT_STRINGS O0 hcs hc0 hc1) hZ (tw3 hw) (tw2 hw) (by decide) (by decide) (own_EW hw) CH0.1) (g := (mkF m 31 #[.val (.int p1), .val (.int p2), .val (.int p3), .val (.int (2 : Int32)), .val (.int rl), .unset, .unset, .unset, .unset] [(.int c1), (.int c0), (.int (2 : Int32))])) rfl (by rw [hml]; rfl) (argsL := [(.int (2 : Int32)), (.int c0), (.int c1)]) (rest := []) (lenOf pd_3 rfl) rfl (by show 2 * 0 + _ ≤ _; exact Nat.le_of_eq rfl) (hb hby at_31) (fun _ _ => ⟨rfl, e0, (by decide : 0 + 3 ≤ _), (by decide : 0 + 8 ≤ _)⟩)
    dsimp only [Pt.U, Pt.locs, Pt.cells, Pt.slots] at X1021s hs1021 hg1021 l1021 y1021 z1021 st1021 hQ1021 ch1021
    subst l1021 y1021 z1021
    obtain ⟨X1021, hS1021, hZ1021, hown1021⟩ := rebS hS0 (by rw [e0]; exact (Nat.le_refl _)) X1021s hs1021 hg1021 hZ hown
    obtain ⟨b674_1021, b692_714_744_755_1021, k692_714_744_755_1021, rfl, N1021q, K1021, P1021_0, P1021_1, P1021_2, P1021_3, P1021_4, P1021_5, P1021_6⟩ := hQ1021
    have N1022 := Fr.app N0 N1021q
    have f1023 := CH0.trans ch1021
    refine GoH.step (fun _ k => st1021.trans (XS.astore X1021.here hx rfl (hb hby at_34) rfl rfl (l' := #[.val (.int p1), .val (.int p2), .val (.int p3), .val (.int (2 : Int32)), .val (.int rl), .val (.ref b674_1021), .unset, .unset, .unset]) rfl (XS.iload X1021.here hx rfl (hb hby at_36) rfl (XS.iloadN X1021.here hx rfl (hb hby at_38) rfl (XS.sipush X1021.here hx rfl (hb hby at_39) (XS.iand X1021.here hx rfl (hb hby at_42) rfl (XS.i2c X1021.here hx rfl (hb hby at_43) rfl k))))))) ?_
    show GoH p e below s _ _ _ T1021 (mkF m 44 #[.val (.int p1), .val (.int p2), .val (.int p3), .val (.int (2 : Int32)), .val (.int rl), .val (.ref b674_1021), .unset, .unset, .unset] [(.int ((p3 &&& (255 : Int32)).toUInt32.toUInt16.toUInt32.toInt32)), (.int rl)])
    obtain ⟨c2, ec2⟩ : ∃ z, z = ((p3 &&& (255 : Int32)).toUInt32.toUInt16.toUInt32.toInt32) := ⟨_, rfl⟩
    have hc2 : ¬ (255 : Int32) < (nar .char c2) := by rw [ec2]; exact own_c2 _
    rw [← ec2]
    refine GoH.step (fun _ k => XS.iloadN X1021.here hx rfl (hb hby at_44) rfl (XS.bipush X1021.here hx rfl (hb hby at_45) (XS.iushr X1021.here hx rfl (hb hby at_47) rfl (XS.sipush X1021.here hx rfl (hb hby at_48) (XS.iand X1021.here hx rfl (hb hby at_51) rfl (XS.i2c X1021.here hx rfl (hb hby at_52) rfl k)))))) ?_
    show GoH p e below s _ _ _ T1021 (mkF m 53 #[.val (.int p1), .val (.int p2), .val (.int p3), .val (.int (2 : Int32)), .val (.int rl), .val (.ref b674_1021), .unset, .unset, .unset] [(.int ((((p3.toUInt32 >>> ((8 : Int32) &&& 31).toUInt32).toInt32) &&& (255 : Int32)).toUInt32.toUInt16.toUInt32.toInt32)), (.int c2), (.int rl)])
    obtain ⟨c3, ec3⟩ : ∃ z, z = ((((p3.toUInt32 >>> ((8 : Int32) &&& 31).toUInt32).toInt32) &&& (255 : Int32)).toUInt32.toUInt16.toUInt32.toInt32) := ⟨_, rfl⟩
    have hc3 : ¬ (255 : Int32) < (nar .char c3) := by rw [ec3]; exact own_c2 _
    rw [← ec3]
    show GoH p e below s _ _ _ T1021 (mkF m 53 #[.val (.int p1), .val (.int p2), .val (.int p3), .val (.int (2 : Int32)), .val (.int rl), .val (.ref b674_1021), .unset, .unset, .unset] [(.int c3), (.int c2), (.int rl)])
    rcases hrl with rfl | rfl | rfl
    · show GoH p e below s _ _ _ T1021 (mkF m 53 #[.val (.int p1), .val (.int p2), .val (.int p3), .val (.int (2 : Int32)), .val (.int (0 : Int32)), .val (.ref b674_1021), .unset, .unset, .unset] [(.int c3), (.int c2), (.int (0 : Int32))])
      have f1024 := (Nat.le_trans Z0 K1021.1)
      obtain ⟨_, _, ⟨T1025, L1025, k1025, n1025⟩, -, X1025s, hs1025, hg1025, ⟨Lc1025, hQ1025, l1025, y1025, z1025, ch1025⟩, st1025⟩ := callSS X1021 hx (y := xm34) hown1021 (mvT hZ1021 (tw0 hw)) (mvT hZ1021 (tw1 hw)) (mvT hZ1021 (tw2 hw)) (mvT hZ1021 (tw3 hw)) (by decide) (backOfSH (W := 0) (rm_SubjectSetTypeToStringPinLaw_mk_0 l Z a0 hw [] c2 c3 T1021.heap n0 f1024) hZ1021 (tw3 hw) (tw2 hw) (by decide) (by decide) (own_EW hw) f1023.1) (g := (mkF m 53 #[.val (.int p1), .val (.int p2), .val (.int p3), .val (.int (2 : Int32)), .val (.int (0 : Int32)), .val (.ref b674_1021), .unset, .unset, .unset] [(.int c3), (.int c2), (.int (0 : Int32))])) rfl (by rw [hml]; rfl) (argsL := [(.int (0 : Int32)), (.int c2), (.int c3)]) (rest := []) (lenOf pd_3 rfl) rfl (by show 2 * 0 + _ ≤ _; exact Nat.le_of_eq rfl) (hb hby at_53) (fun _ _ => ⟨rfl, rfl, (by decide : 3 + 6 ≤ _), (by decide : 8 + 12 ≤ _)⟩)
      dsimp only [Pt.U, Pt.locs, Pt.cells, Pt.slots] at X1025s hs1025 hg1025 l1025 y1025 z1025 st1025 hQ1025 ch1025
      subst l1025 y1025 z1025
      obtain ⟨X1025, hS1025, hZ1025, hown1025⟩ := rebS hS1021 (by exact (Nat.le_refl _)) X1025s hs1025 hg1025 hZ1021 hown1021
      obtain ⟨b6_1025, b13_41_49_1025, kb13_41_49_1025, rfl, N1025q, K1025, P1025_0, P1025_1, P1025_2, P1025_3, P1025_4⟩ := hQ1025
      have N1026 := Fr.app N1022 N1025q
      have f1027 := f1023.trans ch1025
      refine GoH.step (fun _ k => st1025.trans (XS.astore X1025.here hx rfl (hb hby at_56) rfl rfl (l' := #[.val (.int p1), .val (.int p2), .val (.int p3), .val (.int (2 : Int32)), .val (.int (0 : Int32)), .val (.ref b674_1021), .val (.ref b6_1025), .unset, .unset]) rfl k)) ?_
      show GoH p e below s _ _ _ T1025 (mkF m 58 #[.val (.int p1), .val (.int p2), .val (.int p3), .val (.int (2 : Int32)), .val (.int (0 : Int32)), .val (.ref b674_1021), .val (.ref b6_1025), .unset, .unset] [])
      obtain ⟨T1028, h1028, X1028, e1028, E1028, A1028, D1028, -, st1028⟩ := newO X1025 hx hZ1025 hown1025 (tw26 hw) (tw27 hw) (tw28 hw) rfl (g := (mkF m 58 #[.val (.int p1), .val (.int p2), .val (.int p3), .val (.int (2 : Int32)), .val (.int (0 : Int32)), .val (.ref b674_1021), .val (.ref b6_1025), .unset, .unset] [])) rfl (hb hby at_58) (by decide) (by decide)
      obtain ⟨b1028, g1028⟩ : ∃ z, z = T1025.heap.size := ⟨_, rfl⟩
      rw [← g1028] at A1028 D1028 st1028
      have f1029 : Fld Z h1028 b1028 xs2 "type" xs21 .null := D1028 (Or.inr (tw39 hw)) (ty := (.object xs25)) (by decide)
      have f1030 : Fld Z h1028 b1028 xs2 "relation" xs21 .null := D1028 (Or.inr (tw41 hw)) (ty := (.object xs25)) (by decide)
      refine GoH.step (fun _ k => st1028 _ (XS.dup X1028.here hx rfl (hb hby at_61) rfl rfl (XS.aload X1028.here hx rfl (hb hby at_62) rfl rfl (XS.aload X1028.here hx rfl (hb hby at_64) rfl rfl k)))) ?_
      show GoH p e below s _ _ _ T1028 (mkF m 66 #[.val (.int p1), .val (.int p2), .val (.int p3), .val (.int (2 : Int32)), .val (.int (0 : Int32)), .val (.ref b674_1021), .val (.ref b6_1025), .unset, .unset] [(.ref b6_1025), (.ref b674_1021), (.ref b1028), (.ref b1028)])
      have f1031 := (Nat.le_trans (Nat.le_trans f1024 K1025.1) E1028.1)
      have f1032 := (Nat.le_trans f1024 K1025.1)
      have g1033 := Nat.le_trans f1032 (Nat.le_of_eq g1028.symm)
      obtain ⟨_, _, ⟨T1034, L1034, k1034, n1034⟩, -, X1034, ⟨Lc1034, hQ1034, l1034, y1034, z1034⟩, st1034⟩ := X1028.specialBack hx (y := xm31) rfl hown1025 (mvT hZ1025 (tw29 hw)) (mvT hZ1025 (tw30 hw)) (mvT hZ1025 (tw31 hw)) (by decide) (backOf (W := 1) (rm_SubjectSetType_new_0 l Z a0 hw [] b1028 b674_1021 b6_1025 h1028 n0 f1031 A1028 f1029 g1033 f1030) hZ1025 (tw31 hw) (tw28 hw) (by decide) (by decide)) (g := (mkF m 66 #[.val (.int p1), .val (.int p2), .val (.int p3), .val (.int (2 : Int32)), .val (.int (0 : Int32)), .val (.ref b674_1021), .val (.ref b6_1025), .unset, .unset] [(.ref b6_1025), (.ref b674_1021), (.ref b1028), (.ref b1028)])) rfl (by rw [hml]; rfl) (Steps.refl _) (a := b1028) (argsL := [(.ref b674_1021), (.ref b6_1025)]) (rest := [(.ref b1028)]) (lenOf pd_5 rfl) rfl (by show 2 * 0 + _ ≤ _; exact Nat.le_of_eq rfl) (hb hby at_66) (fun _ _ => ⟨rfl, e1028, (by decide : 10 + 0 ≤ _), (by decide : 22 + 0 ≤ _)⟩)
      dsimp only [Pt.U, Pt.locs, Pt.cells, Pt.slots] at X1034 l1034 y1034 z1034 st1034 hQ1034
      subst l1034 y1034 z1034
      obtain ⟨rfl, N1034q, K1034, P1034_0, P1034_1⟩ := hQ1034
      have N1035 := Fr.app N1026 N1034q
      refine GoH.step (fun _ k => st1034.trans k) ?_
      show GoH p e below s _ _ _ T1034 (mkF m 69 #[.val (.int p1), .val (.int p2), .val (.int p3), .val (.int (2 : Int32)), .val (.int (0 : Int32)), .val (.ref b674_1021), .val (.ref b6_1025), .unset, .unset] [(.ref b1028)])
      have f1036 := ((((O0.keep K1021 all0).keep K1025 all0).ext E1028).keep K1034 (allS g1033 all0))
      have f1037 := (Nat.le_trans f1031 K1034.1)
      have f1038 := (((P1021_1.keep K1025).ext E1028).keep K1034)
      have f1039 := (P1021_1.keep K1025)
      have ne1040 : b674_1021 ≠ b1028 := Nat.ne_of_lt (Nat.lt_of_lt_of_le f1039.lt (Nat.le_of_eq g1028.symm))
      have f1041 := (((P1021_2.keep K1025 nin0).ext E1028).keep K1034 (ninS ne1040 nin0))
      have f1042 := (P1021_5.keep K1025 nin0)
      have ne1043 : b692_714_744_755_1021 ≠ b1028 := Nat.ne_of_lt (Nat.lt_of_lt_of_le f1042.lt (Nat.le_of_eq g1028.symm))
      have f1044 := (((P1021_5.keep K1025 nin0).ext E1028).keep K1034 (ninS ne1043 nin0))
      have f1045 := (((P1021_3.keep K1025 nin0).ext E1028).keep K1034 (ninS ne1040 nin0))
      have f1046 := ((P1025_1.ext E1028).keep K1034)
      have ne1047 : b6_1025 ≠ b1028 := Nat.ne_of_lt (Nat.lt_of_lt_of_le P1025_1.lt (Nat.le_of_eq g1028.symm))
      have f1048 := ((P1025_2.ext E1028).keep K1034 (ninS ne1047 nin0))
      have ne1049 : b13_41_49_1025 ≠ b1028 := Nat.ne_of_lt (Nat.lt_of_lt_of_le P1025_4.lt (Nat.le_of_eq g1028.symm))
      have f1050 := ((P1025_4.ext E1028).keep K1034 (ninS ne1049 nin0))
      have f1051 := ((P1025_3.ext E1028).keep K1034 (ninS ne1047 nin0))
      have f1053 := (own_chK (own_chE f1027 E1028) K1034 (sfS (Safe.exa hZ1025.alike A1028 (by decide) (by decide)) sf0))
      have f1054 := (A1028.keep K1034)
      obtain ⟨cq1052, kq1052, q1052a, q1052b, q1052c⟩ := isOf hZ1025 rfl f1054
      obtain ⟨_, _, ⟨T1052, L1052, k1052, n1052⟩, -, X1052s, hs1052, hg1052, ⟨Lc1052, hQ1052, l1052, y1052, z1052, ch1052⟩, st1052⟩ := X1034.virtualBackS hx (y := xm22) (z := xm22) hown1025 (mvT hZ1025 (tw42 hw)) (mvT hZ1025 (tw43 hw)) (notFace_of_selects (args := #[]) (mvT hZ1025 (tw45 hw))) (mvT hZ1025 (tw45 hw)) (mvT hZ1025 (tw44 hw)) (by decide) (backOfSH (W := 0) (rm_SubjectSetType_toString_0 l Z a0 hw [] b1028 cs b674_1021 b692_714_744_755_1021 k692_714_744_755_1021 (2 : Int32) ([(.int (nar .byte ((nar .char c0).toInt8.toInt32))), (.int (nar .byte ((nar .char c1).toInt8.toInt32)))]) b6_1025 b13_41_49_1025 kb13_41_49_1025 (0 : Int32) ([]) T1034.heap n0 f1037 Z_S_COMPACT_STRINGS f1036 hcs P1034_0 f1038 f1041 f1044 f1045 (by decide) (by decide) (Nat.le_of_ble_eq_true rfl) (Nat.le_of_ble_eq_true rfl) (Nat.le_of_ble_eq_true rfl) (by decide) (by decide) (Nat.le_of_ble_eq_true rfl) (Nat.le_of_ble_eq_true rfl) P1034_1 f1046 f1048 f1050 f1051 (by decide) (by decide) (by decide) (Nat.le_of_ble_eq_true rfl) (Nat.le_of_ble_eq_true rfl) (Nat.le_of_ble_eq_true rfl) (by decide) (by decide) (by decide) (Nat.le_of_ble_eq_true rfl) (by decide) (Nat.le_of_ble_eq_true rfl) (Nat.le_of_ble_eq_true rfl) (Nat.le_of_ble_eq_true rfl)) hZ1025 (tw46 hw) (tw28 hw) (by decide) (by decide) (own_EW hw) f1053.1) q1052a q1052c (g := (mkF m 69 #[.val (.int p1), .val (.int p2), .val (.int p3), .val (.int (2 : Int32)), .val (.int (0 : Int32)), .val (.ref b674_1021), .val (.ref b6_1025), .unset, .unset] [(.ref b1028)])) rfl (by rw [hml]; rfl) (Steps.refl _) (argsL := []) (rest := []) (lenOf pd_21 rfl) rfl (by show 2 * 0 + _ ≤ _; exact Nat.le_of_eq rfl) (hb hby at_69) (fun _ _ => ⟨rfl, rfl, (by decide : 10 + 6 ≤ _), (by decide : 22 + 48 ≤ _)⟩)
      dsimp only [Pt.U, Pt.locs, Pt.cells, Pt.slots] at X1052s hs1052 hg1052 l1052 y1052 z1052 st1052 hQ1052 ch1052
      subst l1052 y1052 z1052
      have f1055 := (Nat.le_trans (Nat.le_trans (Nat.le_refl _) E1028.1) K1034.1)
      obtain ⟨X1052, hS1052, hZ1052, hown1052⟩ := rebS hS1025 (by exact f1055) X1052s hs1052 hg1052 hZ1025 hown1025
      obtain ⟨b267_404_1052, b297_325_341_364_384_404_1052, k297_325_341_364_384_404_1052, rfl, N1052q, K1052, P1052_0, P1052_1, P1052_2, P1052_3, P1052_4, P1052_5, P1052_6⟩ := hQ1052
      have N1056 := Fr.app N1035 N1052q
      have f1057 := f1053.trans ch1052
      refine GoH.step (fun _ k => st1052.trans k) ?_
      show GoH p e below s _ _ _ T1052 (mkF m 72 #[.val (.int p1), .val (.int p2), .val (.int p3), .val (.int (2 : Int32)), .val (.int (0 : Int32)), .val (.ref b674_1021), .val (.ref b6_1025), .unset, .unset] [(.ref b267_404_1052)])
      have f1058 : Arv Z T1052.heap b297_325_341_364_384_404_1052 k297_325_341_364_384_404_1052 .byte (3 : Int32) [(.int (nar .byte ((nar .char c0).toInt8.toInt32))), (.int (nar .byte ((nar .char c1).toInt8.toInt32))), (.int (35 : Int32))] (.int (0 : Int32)) := P1052_5
      refine GoH.step (fun _ k => XS.astore X1052.here hx rfl (hb hby at_72) rfl rfl (l' := #[.val (.int p1), .val (.int p2), .val (.int p3), .val (.int (2 : Int32)), .val (.int (0 : Int32)), .val (.ref b674_1021), .val (.ref b6_1025), .val (.ref b267_404_1052), .unset]) rfl (XS.aload X1052.here hx rfl (hb hby at_74) rfl rfl (XS.ifnonnullYes X1052.here hx rfl (pc0 := 76) (pc' := 81) rfl (hb hby at_76) rfl (by decide) (by decide) (XS.iloadN X1052.here hx rfl (hb hby at_81) rfl (XS.iconst X1052.here hx rfl (hb hby at_82) (XS.iadd X1052.here hx rfl (hb hby at_83) rfl (XS.iload X1052.here hx rfl (hb hby at_84) rfl (XS.iadd X1052.here hx rfl (hb hby at_86) rfl (XS.istore X1052.here hx rfl (hb hby at_87) rfl (l' := #[.val (.int p1), .val (.int p2), .val (.int p3), .val (.int (2 : Int32)), .val (.int (0 : Int32)), .val (.ref b674_1021), .val (.ref b6_1025), .val (.ref b267_404_1052), .val (.int (3 : Int32))]) rfl (XS.aload X1052.here hx rfl (hb hby at_89) rfl rfl k)))))))))) ?_
      show GoH p e below s _ _ _ T1052 (mkF m 91 #[.val (.int p1), .val (.int p2), .val (.int p3), .val (.int (2 : Int32)), .val (.int (0 : Int32)), .val (.ref b674_1021), .val (.ref b6_1025), .val (.ref b267_404_1052), .val (.int (3 : Int32))] [(.ref b267_404_1052)])
      have f1059 := (f1036.keep K1052 all0)
      have f1060 := (Nat.le_trans f1037 K1052.1)
      obtain ⟨cq1061, kq1061, q1061a, q1061b, q1061c⟩ := isOf hZ1052 rfl P1052_1
      obtain ⟨_, _, ⟨T1061, L1061, k1061, n1061⟩, -, X1061, ⟨Lc1061, hQ1061, l1061, y1061, z1061⟩, st1061⟩ := X1052.virtualBack hx (y := xm19) (z := xm19) hown1052 (mvT hZ1052 (tw159 hw)) (mvT hZ1052 (tw76 hw)) (notFace_of_selects (args := #[]) (mvT hZ1052 (tw78 hw))) (mvT hZ1052 (tw78 hw)) (mvT hZ1052 (tw77 hw)) (by decide) (backOf (W := 0) (rm_String_length_0 l Z a0 hw [] b267_404_1052 b297_325_341_364_384_404_1052 k297_325_341_364_384_404_1052 (3 : Int32) ([(.int (nar .byte ((nar .char c0).toInt8.toInt32))), (.int (nar .byte ((nar .char c1).toInt8.toInt32))), (.int (35 : Int32))]) cs T1052.heap n0 f1060 P1052_2 f1058 P1052_1 Z_S_COMPACT_STRINGS f1059 hcs P1052_3) hZ1052 (tw79 hw) (tw6 hw) (by decide) (by decide)) q1061a q1061c (g := (mkF m 91 #[.val (.int p1), .val (.int p2), .val (.int p3), .val (.int (2 : Int32)), .val (.int (0 : Int32)), .val (.ref b674_1021), .val (.ref b6_1025), .val (.ref b267_404_1052), .val (.int (3 : Int32))] [(.ref b267_404_1052)])) rfl (by rw [hml]; rfl) (Steps.refl _) (argsL := []) (rest := []) (lenOf pd_8 rfl) rfl (by show 2 * 0 + _ ≤ _; exact Nat.le_of_eq rfl) (hb hby at_91) (fun _ _ => ⟨rfl, rfl, (by decide : 16 + 0 ≤ _), (by decide : 70 + 0 ≤ _)⟩)
      dsimp only [Pt.U, Pt.locs, Pt.cells, Pt.slots] at X1061 l1061 y1061 z1061 st1061 hQ1061
      subst l1061 y1061 z1061
      obtain ⟨rfl, N1061q, eq1061⟩ := hQ1061
      have N1062 := Fr.app N1056 N1061q
      refine GoH.step (fun _ k => st1061.trans (XS.iload X1061.here hx rfl (hb hby at_94) rfl (XS.icmpYes X1061.here hx rfl (pc0 := 96) (pc' := 101) rfl (hb hby at_96) rfl (teq (by decide)).1 (by decide) (by decide) (XS.aload X1061.here hx rfl (hb hby at_101) rfl rfl (XS.aload X1061.here hx rfl (hb hby at_103) rfl rfl (XS.aload X1061.here hx rfl (hb hby at_105) rfl rfl (XS.iconst X1061.here hx rfl (hb hby at_107) k))))))) ?_
      show GoH p e below s _ _ _ T1061 (mkF m 108 #[.val (.int p1), .val (.int p2), .val (.int p3), .val (.int (2 : Int32)), .val (.int (0 : Int32)), .val (.ref b674_1021), .val (.ref b6_1025), .val (.ref b267_404_1052), .val (.int (3 : Int32))] [(.int (0 : Int32)), (.ref b6_1025), (.ref b674_1021), (.ref b267_404_1052)])
      have f1063 := (f1038.keep K1052)
      have f1064 := (f1041.keep K1052 nin0)
      have f1065 := (f1044.keep K1052 nin0)
      have f1066 := (f1045.keep K1052 nin0)
      obtain ⟨_, _, ⟨T1067, L1067, k1067, n1067⟩, -, X1067, ⟨Lc1067, hQ1067, l1067, y1067, z1067⟩, st1067⟩ := Jvm.LawKit.callS X1061 hx (y := xm35) hown1052 (mvT hZ1052 (tw160 hw)) (mvT hZ1052 (tw161 hw)) (mvT hZ1052 (tw2 hw)) (mvT hZ1052 (tw162 hw)) (by decide) (backOf (W := 0) (rm_SubjectSetTypeToStringPinLaw_ok_3 l Z a0 hw [] b267_404_1052 b674_1021 b6_1025 (0 : Int32) b297_325_341_364_384_404_1052 k297_325_341_364_384_404_1052 (3 : Int32) ([(.int (nar .byte ((nar .char c0).toInt8.toInt32))), (.int (nar .byte ((nar .char c1).toInt8.toInt32))), (.int (35 : Int32))]) cs b692_714_744_755_1021 k692_714_744_755_1021 (2 : Int32) ([(.int (nar .byte ((nar .char c0).toInt8.toInt32))), (.int (nar .byte ((nar .char c1).toInt8.toInt32)))]) (nar .byte ((nar .char c0).toInt8.toInt32)) fv (nar .byte ((nar .char c0).toInt8.toInt32)) T1052.heap n0 f1060 P1052_1 P1052_2 f1058 P1052_3 Z_S_COMPACT_STRINGS f1059 hcs (by decide) f1063 f1064 f1065 f1066 (by decide) rfl Z_S_SIOOBE_FORMATTER hfv (by decide) (by decide) rfl (by decide) rfl) hZ1052 (tw162 hw) (tw2 hw) (by decide) (by decide)) (g := (mkF m 108 #[.val (.int p1), .val (.int p2), .val (.int p3), .val (.int (2 : Int32)), .val (.int (0 : Int32)), .val (.ref b674_1021), .val (.ref b6_1025), .val (.ref b267_404_1052), .val (.int (3 : Int32))] [(.int (0 : Int32)), (.ref b6_1025), (.ref b674_1021), (.ref b267_404_1052)])) rfl (by rw [hml]; rfl) (argsL := [(.ref b267_404_1052), (.ref b674_1021), (.ref b6_1025), (.int (0 : Int32))]) (rest := []) (lenOf pd_24 rfl) rfl (by show 2 * 0 + _ ≤ _; exact Nat.le_of_eq rfl) (hb hby at_108) (fun _ _ => ⟨rfl, eq1061, (by decide : 16 + 0 ≤ _), (by decide : 70 + 0 ≤ _)⟩)
      dsimp only [Pt.U, Pt.locs, Pt.cells, Pt.slots] at X1067 l1067 y1067 z1067 st1067 hQ1067
      subst l1067 y1067 z1067
      obtain ⟨rfl, N1067q, eq1067⟩ := hQ1067
      have N1068 := Fr.app N1062 N1067q
      refine GoH.step (fun _ k => st1067 _ (XS.ifNo X1067.here hx rfl (hb hby at_111) rfl ((if0 _ _).trans (feq (by decide)).1) (XS.aload X1067.here hx rfl (hb hby at_114) rfl rfl (XS.aload X1067.here hx rfl (hb hby at_116) rfl rfl (XS.aload X1067.here hx rfl (hb hby at_118) rfl rfl (XS.iconst X1067.here hx rfl (hb hby at_120) k)))))) ?_
      show GoH p e below s _ _ _ T1067 (mkF m 121 #[.val (.int p1), .val (.int p2), .val (.int p3), .val (.int (2 : Int32)), .val (.int (0 : Int32)), .val (.ref b674_1021), .val (.ref b6_1025), .val (.ref b267_404_1052), .val (.int (3 : Int32))] [(.int (1 : Int32)), (.ref b6_1025), (.ref b674_1021), (.ref b267_404_1052)])
      obtain ⟨_, _, ⟨T1069, L1069, k1069, n1069⟩, -, X1069, ⟨Lc1069, hQ1069, l1069, y1069, z1069⟩, st1069⟩ := Jvm.LawKit.callS X1067 hx (y := xm35) hown1052 (mvT hZ1052 (tw160 hw)) (mvT hZ1052 (tw161 hw)) (mvT hZ1052 (tw2 hw)) (mvT hZ1052 (tw162 hw)) (by decide) (backOf (W := 0) (rm_SubjectSetTypeToStringPinLaw_ok_3 l Z a0 hw [] b267_404_1052 b674_1021 b6_1025 (1 : Int32) b297_325_341_364_384_404_1052 k297_325_341_364_384_404_1052 (3 : Int32) ([(.int (nar .byte ((nar .char c0).toInt8.toInt32))), (.int (nar .byte ((nar .char c1).toInt8.toInt32))), (.int (35 : Int32))]) cs b692_714_744_755_1021 k692_714_744_755_1021 (2 : Int32) ([(.int (nar .byte ((nar .char c0).toInt8.toInt32))), (.int (nar .byte ((nar .char c1).toInt8.toInt32)))]) (nar .byte ((nar .char c1).toInt8.toInt32)) fv (nar .byte ((nar .char c1).toInt8.toInt32)) T1052.heap n0 f1060 P1052_1 P1052_2 f1058 P1052_3 Z_S_COMPACT_STRINGS f1059 hcs (by decide) f1063 f1064 f1065 f1066 (by decide) rfl Z_S_SIOOBE_FORMATTER hfv (by decide) (by decide) rfl (by decide) rfl) hZ1052 (tw162 hw) (tw2 hw) (by decide) (by decide)) (g := (mkF m 121 #[.val (.int p1), .val (.int p2), .val (.int p3), .val (.int (2 : Int32)), .val (.int (0 : Int32)), .val (.ref b674_1021), .val (.ref b6_1025), .val (.ref b267_404_1052), .val (.int (3 : Int32))] [(.int (1 : Int32)), (.ref b6_1025), (.ref b674_1021), (.ref b267_404_1052)])) rfl (by rw [hml]; rfl) (argsL := [(.ref b267_404_1052), (.ref b674_1021), (.ref b6_1025), (.int (1 : Int32))]) (rest := []) (lenOf pd_24 rfl) rfl (by show 2 * 0 + _ ≤ _; exact Nat.le_of_eq rfl) (hb hby at_121) (fun _ _ => ⟨rfl, eq1067, (by decide : 16 + 0 ≤ _), (by decide : 70 + 0 ≤ _)⟩)
      dsimp only [Pt.U, Pt.locs, Pt.cells, Pt.slots] at X1069 l1069 y1069 z1069 st1069 hQ1069
      subst l1069 y1069 z1069
      obtain ⟨rfl, N1069q, eq1069⟩ := hQ1069
      have N1070 := Fr.app N1068 N1069q
      refine GoH.step (fun _ k => st1069 _ (XS.ifNo X1069.here hx rfl (hb hby at_124) rfl ((if0 _ _).trans (feq (by decide)).1) (XS.aload X1069.here hx rfl (hb hby at_127) rfl rfl (XS.aload X1069.here hx rfl (hb hby at_129) rfl rfl (XS.aload X1069.here hx rfl (hb hby at_131) rfl rfl (XS.iconst X1069.here hx rfl (hb hby at_133) k)))))) ?_
      show GoH p e below s _ _ _ T1069 (mkF m 134 #[.val (.int p1), .val (.int p2), .val (.int p3), .val (.int (2 : Int32)), .val (.int (0 : Int32)), .val (.ref b674_1021), .val (.ref b6_1025), .val (.ref b267_404_1052), .val (.int (3 : Int32))] [(.int (2 : Int32)), (.ref b6_1025), (.ref b674_1021), (.ref b267_404_1052)])
      obtain ⟨_, _, ⟨T1071, L1071, k1071, n1071⟩, -, X1071, ⟨Lc1071, hQ1071, l1071, y1071, z1071⟩, st1071⟩ := Jvm.LawKit.callS X1069 hx (y := xm35) hown1052 (mvT hZ1052 (tw160 hw)) (mvT hZ1052 (tw161 hw)) (mvT hZ1052 (tw2 hw)) (mvT hZ1052 (tw162 hw)) (by decide) (backOf (W := 0) (rm_SubjectSetTypeToStringPinLaw_ok_0 l Z a0 hw [] b267_404_1052 b674_1021 b6_1025 (2 : Int32) b297_325_341_364_384_404_1052 k297_325_341_364_384_404_1052 (3 : Int32) ([(.int (nar .byte ((nar .char c0).toInt8.toInt32))), (.int (nar .byte ((nar .char c1).toInt8.toInt32))), (.int (35 : Int32))]) cs b692_714_744_755_1021 k692_714_744_755_1021 (2 : Int32) ([(.int (nar .byte ((nar .char c0).toInt8.toInt32))), (.int (nar .byte ((nar .char c1).toInt8.toInt32)))]) fv (35 : Int32) T1052.heap n0 f1060 P1052_1 P1052_2 f1058 P1052_3 Z_S_COMPACT_STRINGS f1059 hcs (by decide) f1063 f1064 f1065 f1066 (by decide) (by decide) Z_S_SIOOBE_FORMATTER hfv rfl (by decide) (by decide) (by decide)) hZ1052 (tw162 hw) (tw2 hw) (by decide) (by decide)) (g := (mkF m 134 #[.val (.int p1), .val (.int p2), .val (.int p3), .val (.int (2 : Int32)), .val (.int (0 : Int32)), .val (.ref b674_1021), .val (.ref b6_1025), .val (.ref b267_404_1052), .val (.int (3 : Int32))] [(.int (2 : Int32)), (.ref b6_1025), (.ref b674_1021), (.ref b267_404_1052)])) rfl (by rw [hml]; rfl) (argsL := [(.ref b267_404_1052), (.ref b674_1021), (.ref b6_1025), (.int (2 : Int32))]) (rest := []) (lenOf pd_24 rfl) rfl (by show 2 * 0 + _ ≤ _; exact Nat.le_of_eq rfl) (hb hby at_134) (fun _ _ => ⟨rfl, eq1069, (by decide : 16 + 0 ≤ _), (by decide : 70 + 0 ≤ _)⟩)
      dsimp only [Pt.U, Pt.locs, Pt.cells, Pt.slots] at X1071 l1071 y1071 z1071 st1071 hQ1071
      subst l1071 y1071 z1071
      obtain ⟨rfl, N1071q, eq1071⟩ := hQ1071
      have N1072 := Fr.app N1070 N1071q
      refine GoH.step (fun _ k => st1071 _ (XS.ifNo X1071.here hx rfl (hb hby at_137) rfl ((if0 _ _).trans (feq (by decide)).1) (XS.aload X1071.here hx rfl (hb hby at_140) rfl rfl (XS.aload X1071.here hx rfl (hb hby at_142) rfl rfl (XS.aload X1071.here hx rfl (hb hby at_144) rfl rfl (XS.iconst X1071.here hx rfl (hb hby at_146) k)))))) ?_
      show GoH p e below s _ _ _ T1071 (mkF m 147 #[.val (.int p1), .val (.int p2), .val (.int p3), .val (.int (2 : Int32)), .val (.int (0 : Int32)), .val (.ref b674_1021), .val (.ref b6_1025), .val (.ref b267_404_1052), .val (.int (3 : Int32))] [(.int (3 : Int32)), (.ref b6_1025), (.ref b674_1021), (.ref b267_404_1052)])
      obtain ⟨_, _, ⟨T1073, L1073, k1073, n1073⟩, -, X1073, ⟨Lc1073, hQ1073, l1073, y1073, z1073⟩, st1073⟩ := Jvm.LawKit.callS X1071 hx (y := xm35) hown1052 (mvT hZ1052 (tw160 hw)) (mvT hZ1052 (tw161 hw)) (mvT hZ1052 (tw2 hw)) (mvT hZ1052 (tw162 hw)) (by decide) (backOf (W := 0) (rm_SubjectSetTypeToStringPinLaw_ok_1 l Z a0 hw [] b267_404_1052 b674_1021 b6_1025 (3 : Int32) b297_325_341_364_384_404_1052 k297_325_341_364_384_404_1052 (3 : Int32) ([(.int (nar .byte ((nar .char c0).toInt8.toInt32))), (.int (nar .byte ((nar .char c1).toInt8.toInt32))), (.int (35 : Int32))]) cs T1052.heap n0 f1060 P1052_1 P1052_2 f1058 P1052_3 Z_S_COMPACT_STRINGS f1059 hcs (by decide)) hZ1052 (tw162 hw) (tw2 hw) (by decide) (by decide)) (g := (mkF m 147 #[.val (.int p1), .val (.int p2), .val (.int p3), .val (.int (2 : Int32)), .val (.int (0 : Int32)), .val (.ref b674_1021), .val (.ref b6_1025), .val (.ref b267_404_1052), .val (.int (3 : Int32))] [(.int (3 : Int32)), (.ref b6_1025), (.ref b674_1021), (.ref b267_404_1052)])) rfl (by rw [hml]; rfl) (argsL := [(.ref b267_404_1052), (.ref b674_1021), (.ref b6_1025), (.int (3 : Int32))]) (rest := []) (lenOf pd_24 rfl) rfl (by show 2 * 0 + _ ≤ _; exact Nat.le_of_eq rfl) (hb hby at_147) (fun _ _ => ⟨rfl, eq1071, (by decide : 16 + 0 ≤ _), (by decide : 70 + 0 ≤ _)⟩)
      dsimp only [Pt.U, Pt.locs, Pt.cells, Pt.slots] at X1073 l1073 y1073 z1073 st1073 hQ1073
      subst l1073 y1073 z1073
      obtain ⟨rfl, N1073q, eq1073⟩ := hQ1073
      have N1074 := Fr.app N1072 N1073q
      refine GoH.step (fun _ k => st1073 _ (XS.ifNo X1073.here hx rfl (hb hby at_150) rfl ((if0 _ _).trans (feq (by decide)).1) (XS.aload X1073.here hx rfl (hb hby at_153) rfl rfl (XS.aload X1073.here hx rfl (hb hby at_155) rfl rfl (XS.aload X1073.here hx rfl (hb hby at_157) rfl rfl (XS.iconst X1073.here hx rfl (hb hby at_159) k)))))) ?_
      show GoH p e below s _ _ _ T1073 (mkF m 160 #[.val (.int p1), .val (.int p2), .val (.int p3), .val (.int (2 : Int32)), .val (.int (0 : Int32)), .val (.ref b674_1021), .val (.ref b6_1025), .val (.ref b267_404_1052), .val (.int (3 : Int32))] [(.int (4 : Int32)), (.ref b6_1025), (.ref b674_1021), (.ref b267_404_1052)])
      obtain ⟨_, _, ⟨T1075, L1075, k1075, n1075⟩, -, X1075, ⟨Lc1075, hQ1075, l1075, y1075, z1075⟩, st1075⟩ := Jvm.LawKit.callS X1073 hx (y := xm35) hown1052 (mvT hZ1052 (tw160 hw)) (mvT hZ1052 (tw161 hw)) (mvT hZ1052 (tw2 hw)) (mvT hZ1052 (tw162 hw)) (by decide) (backOf (W := 0) (rm_SubjectSetTypeToStringPinLaw_ok_1 l Z a0 hw [] b267_404_1052 b674_1021 b6_1025 (4 : Int32) b297_325_341_364_384_404_1052 k297_325_341_364_384_404_1052 (3 : Int32) ([(.int (nar .byte ((nar .char c0).toInt8.toInt32))), (.int (nar .byte ((nar .char c1).toInt8.toInt32))), (.int (35 : Int32))]) cs T1052.heap n0 f1060 P1052_1 P1052_2 f1058 P1052_3 Z_S_COMPACT_STRINGS f1059 hcs (by decide)) hZ1052 (tw162 hw) (tw2 hw) (by decide) (by decide)) (g := (mkF m 160 #[.val (.int p1), .val (.int p2), .val (.int p3), .val (.int (2 : Int32)), .val (.int (0 : Int32)), .val (.ref b674_1021), .val (.ref b6_1025), .val (.ref b267_404_1052), .val (.int (3 : Int32))] [(.int (4 : Int32)), (.ref b6_1025), (.ref b674_1021), (.ref b267_404_1052)])) rfl (by rw [hml]; rfl) (argsL := [(.ref b267_404_1052), (.ref b674_1021), (.ref b6_1025), (.int (4 : Int32))]) (rest := []) (lenOf pd_24 rfl) rfl (by show 2 * 0 + _ ≤ _; exact Nat.le_of_eq rfl) (hb hby at_160) (fun _ _ => ⟨rfl, eq1073, (by decide : 16 + 0 ≤ _), (by decide : 70 + 0 ≤ _)⟩)
      dsimp only [Pt.U, Pt.locs, Pt.cells, Pt.slots] at X1075 l1075 y1075 z1075 st1075 hQ1075
      subst l1075 y1075 z1075
      obtain ⟨rfl, N1075q, eq1075⟩ := hQ1075
      have N1076 := Fr.app N1074 N1075q
      refine GoH.step (fun _ k => st1075 _ (XS.ifNo X1075.here hx rfl (hb hby at_163) rfl ((if0 _ _).trans (feq (by decide)).1) (XS.iconst X1075.here hx rfl (hb hby at_166) (XS.goto X1075.here hx rfl (pc0 := 167) (pc' := 171) rfl (hb hby at_167) (by decide) (by decide) k)))) ?_
      show GoH p e below s _ _ _ T1075 (mkF m 171 #[.val (.int p1), .val (.int p2), .val (.int p3), .val (.int (2 : Int32)), .val (.int (0 : Int32)), .val (.ref b674_1021), .val (.ref b6_1025), .val (.ref b267_404_1052), .val (.int (3 : Int32))] [(.int (1 : Int32))])
      exact GoH.retN X1075 hS1052 hx hlk (t := .boolean) Bd.returns (by simp) (hb hby at_171) eq1075 (Nat.le_refl _) ⟨rfl, N1076⟩ (f1057.trans (CHv.at X1075 hZ1052 (own_EW hw) f1057.1)) (by decide) (by decide)
    · show GoH p e below s _ _ _ T1021 (mkF m 53 #[.val (.int p1), .val (.int p2), .val (.int p3), .val (.int (2 : Int32)), .val (.int (1 : Int32)), .val (.ref b674_1021), .unset, .unset, .unset] [(.int c3), (.int c2), (.int (1 : Int32))])
      have f1077 := (O0.keep K1021 all0)
      have f1078 := (Nat.le_trans Z0 K1021.1)
      obtain ⟨_, _, ⟨T1079, L1079, k1079, n1079⟩, -, X1079s, hs1079, hg1079, ⟨Lc1079, hQ1079, l1079, y1079, z1079, ch1079⟩, st1079⟩ := callSS X1021 hx (y := xm34) hown1021 (mvT hZ1021 (tw0 hw)) (mvT hZ1021 (tw1 hw)) (mvT hZ1021 (tw2 hw)) (mvT hZ1021 (tw3 hw)) (by decide) (backOfSH (W := 0) (rm_SubjectSetTypeToStringPinLaw_mk_1 l Z a0 hw [] c2 c3 cs T1021.heap n0 f1078 Z_S_COMPACT_STRINGS f1077 hcs hc2) hZ1021 (tw3 hw) (tw2 hw) (by decide) (by decide) (own_EW hw) f1023.1) (g := (mkF m 53 #[.val (.int p1), .val (.int p2), .val (.int p3), .val (.int (2 : Int32)), .val (.int (1 : Int32)), .val (.ref b674_1021), .unset, .unset, .unset] [(.int c3), (.int c2), (.int (1 : Int32))])) rfl (by rw [hml]; rfl) (argsL := [(.int (1 : Int32)), (.int c2), (.int c3)]) (rest := []) (lenOf pd_3 rfl) rfl (by show 2 * 0 + _ ≤ _; exact Nat.le_of_eq rfl) (hb hby at_53) (fun _ _ => ⟨rfl, rfl, (by decide : 3 + 3 ≤ _), (by decide : 8 + 6 ≤ _)⟩)
      dsimp only [Pt.U, Pt.locs, Pt.cells, Pt.slots] at X1079s hs1079 hg1079 l1079 y1079 z1079 st1079 hQ1079 ch1079
      subst l1079 y1079 z1079
      obtain ⟨X1079, hS1079, hZ1079, hown1079⟩ := rebS hS1021 (by exact (Nat.le_refl _)) X1079s hs1079 hg1079 hZ1021 hown1021
      obtain ⟨b502_1079, b516_532_561_572_1079, k516_532_561_572_1079, rfl, N1079q, K1079, P1079_0, P1079_1, P1079_2, P1079_3, P1079_4, P1079_5, P1079_6⟩ := hQ1079
      have N1080 := Fr.app N1022 N1079q
      have f1081 := f1023.trans ch1079
      refine GoH.step (fun _ k => st1079.trans (XS.astore X1079.here hx rfl (hb hby at_56) rfl rfl (l' := #[.val (.int p1), .val (.int p2), .val (.int p3), .val (.int (2 : Int32)), .val (.int (1 : Int32)), .val (.ref b674_1021), .val (.ref b502_1079), .unset, .unset]) rfl k)) ?_
      show GoH p e below s _ _ _ T1079 (mkF m 58 #[.val (.int p1), .val (.int p2), .val (.int p3), .val (.int (2 : Int32)), .val (.int (1 : Int32)), .val (.ref b674_1021), .val (.ref b502_1079), .unset, .unset] [])
      obtain ⟨T1082, h1082, X1082, e1082, E1082, A1082, D1082, -, st1082⟩ := newO X1079 hx hZ1079 hown1079 (tw26 hw) (tw27 hw) (tw28 hw) rfl (g := (mkF m 58 #[.val (.int p1), .val (.int p2), .val (.int p3), .val (.int (2 : Int32)), .val (.int (1 : Int32)), .val (.ref b674_1021), .val (.ref b502_1079), .unset, .unset] [])) rfl (hb hby at_58) (by decide) (by decide)
      obtain ⟨b1082, g1082⟩ : ∃ z, z = T1079.heap.size := ⟨_, rfl⟩
      rw [← g1082] at A1082 D1082 st1082
      have f1083 : Fld Z h1082 b1082 xs2 "type" xs21 .null := D1082 (Or.inr (tw39 hw)) (ty := (.object xs25)) (by decide)
      have f1084 : Fld Z h1082 b1082 xs2 "relation" xs21 .null := D1082 (Or.inr (tw41 hw)) (ty := (.object xs25)) (by decide)
      refine GoH.step (fun _ k => st1082 _ (XS.dup X1082.here hx rfl (hb hby at_61) rfl rfl (XS.aload X1082.here hx rfl (hb hby at_62) rfl rfl (XS.aload X1082.here hx rfl (hb hby at_64) rfl rfl k)))) ?_
      show GoH p e below s _ _ _ T1082 (mkF m 66 #[.val (.int p1), .val (.int p2), .val (.int p3), .val (.int (2 : Int32)), .val (.int (1 : Int32)), .val (.ref b674_1021), .val (.ref b502_1079), .unset, .unset] [(.ref b502_1079), (.ref b674_1021), (.ref b1082), (.ref b1082)])
      have f1085 := (Nat.le_trans (Nat.le_trans f1078 K1079.1) E1082.1)
      have f1086 := (Nat.le_trans f1078 K1079.1)
      have g1087 := Nat.le_trans f1086 (Nat.le_of_eq g1082.symm)
      obtain ⟨_, _, ⟨T1088, L1088, k1088, n1088⟩, -, X1088, ⟨Lc1088, hQ1088, l1088, y1088, z1088⟩, st1088⟩ := X1082.specialBack hx (y := xm31) rfl hown1079 (mvT hZ1079 (tw29 hw)) (mvT hZ1079 (tw30 hw)) (mvT hZ1079 (tw31 hw)) (by decide) (backOf (W := 1) (rm_SubjectSetType_new_0 l Z a0 hw [] b1082 b674_1021 b502_1079 h1082 n0 f1085 A1082 f1083 g1087 f1084) hZ1079 (tw31 hw) (tw28 hw) (by decide) (by decide)) (g := (mkF m 66 #[.val (.int p1), .val (.int p2), .val (.int p3), .val (.int (2 : Int32)), .val (.int (1 : Int32)), .val (.ref b674_1021), .val (.ref b502_1079), .unset, .unset] [(.ref b502_1079), (.ref b674_1021), (.ref b1082), (.ref b1082)])) rfl (by rw [hml]; rfl) (Steps.refl _) (a := b1082) (argsL := [(.ref b674_1021), (.ref b502_1079)]) (rest := [(.ref b1082)]) (lenOf pd_5 rfl) rfl (by show 2 * 0 + _ ≤ _; exact Nat.le_of_eq rfl) (hb hby at_66) (fun _ _ => ⟨rfl, e1082, (by decide : 7 + 0 ≤ _), (by decide : 16 + 0 ≤ _)⟩)
      dsimp only [Pt.U, Pt.locs, Pt.cells, Pt.slots] at X1088 l1088 y1088 z1088 st1088 hQ1088
      subst l1088 y1088 z1088
      obtain ⟨rfl, N1088q, K1088, P1088_0, P1088_1⟩ := hQ1088
      have N1089 := Fr.app N1080 N1088q
      refine GoH.step (fun _ k => st1088.trans k) ?_
      show GoH p e below s _ _ _ T1088 (mkF m 69 #[.val (.int p1), .val (.int p2), .val (.int p3), .val (.int (2 : Int32)), .val (.int (1 : Int32)), .val (.ref b674_1021), .val (.ref b502_1079), .unset, .unset] [(.ref b1082)])
      have f1090 := (((f1077.keep K1079 all0).ext E1082).keep K1088 (allS g1087 all0))
      have f1091 := (Nat.le_trans f1085 K1088.1)
      have f1092 := (((P1021_1.keep K1079).ext E1082).keep K1088)
      have f1093 := (P1021_1.keep K1079)
      have ne1094 : b674_1021 ≠ b1082 := Nat.ne_of_lt (Nat.lt_of_lt_of_le f1093.lt (Nat.le_of_eq g1082.symm))
      have f1095 := (((P1021_2.keep K1079 nin0).ext E1082).keep K1088 (ninS ne1094 nin0))
      have f1096 := (P1021_5.keep K1079 nin0)
      have ne1097 : b692_714_744_755_1021 ≠ b1082 := Nat.ne_of_lt (Nat.lt_of_lt_of_le f1096.lt (Nat.le_of_eq g1082.symm))
      have f1098 := (((P1021_5.keep K1079 nin0).ext E1082).keep K1088 (ninS ne1097 nin0))
      have f1099 := (((P1021_3.keep K1079 nin0).ext E1082).keep K1088 (ninS ne1094 nin0))
      have f1100 := ((P1079_1.ext E1082).keep K1088)
      have ne1101 : b502_1079 ≠ b1082 := Nat.ne_of_lt (Nat.lt_of_lt_of_le P1079_1.lt (Nat.le_of_eq g1082.symm))
      have f1102 := ((P1079_2.ext E1082).keep K1088 (ninS ne1101 nin0))
      have ne1103 : b516_532_561_572_1079 ≠ b1082 := Nat.ne_of_lt (Nat.lt_of_lt_of_le P1079_5.lt (Nat.le_of_eq g1082.symm))
      have f1104 := ((P1079_5.ext E1082).keep K1088 (ninS ne1103 nin0))
      have f1105 := ((P1079_3.ext E1082).keep K1088 (ninS ne1101 nin0))
      have f1107 := (own_chK (own_chE f1081 E1082) K1088 (sfS (Safe.exa hZ1079.alike A1082 (by decide) (by decide)) sf0))
      have f1108 := (A1082.keep K1088)
      obtain ⟨cq1106, kq1106, q1106a, q1106b, q1106c⟩ := isOf hZ1079 rfl f1108
      obtain ⟨_, _, ⟨T1106, L1106, k1106, n1106⟩, -, X1106s, hs1106, hg1106, ⟨Lc1106, hQ1106, l1106, y1106, z1106, ch1106⟩, st1106⟩ := X1088.virtualBackS hx (y := xm22) (z := xm22) hown1079 (mvT hZ1079 (tw42 hw)) (mvT hZ1079 (tw43 hw)) (notFace_of_selects (args := #[]) (mvT hZ1079 (tw45 hw))) (mvT hZ1079 (tw45 hw)) (mvT hZ1079 (tw44 hw)) (by decide) (backOfSH (W := 0) (rm_SubjectSetType_toString_0 l Z a0 hw [] b1082 cs b674_1021 b692_714_744_755_1021 k692_714_744_755_1021 (2 : Int32) ([(.int (nar .byte ((nar .char c0).toInt8.toInt32))), (.int (nar .byte ((nar .char c1).toInt8.toInt32)))]) b502_1079 b516_532_561_572_1079 k516_532_561_572_1079 (1 : Int32) ([(.int (nar .byte ((nar .char c2).toInt8.toInt32)))]) T1088.heap n0 f1091 Z_S_COMPACT_STRINGS f1090 hcs P1088_0 f1092 f1095 f1098 f1099 (by decide) (by decide) (Nat.le_of_ble_eq_true rfl) (Nat.le_of_ble_eq_true rfl) (Nat.le_of_ble_eq_true rfl) (by decide) (by decide) (Nat.le_of_ble_eq_true rfl) (Nat.le_of_ble_eq_true rfl) P1088_1 f1100 f1102 f1104 f1105 (by decide) (by decide) (by decide) (Nat.le_of_ble_eq_true rfl) (Nat.le_of_ble_eq_true rfl) (Nat.le_of_ble_eq_true rfl) (by decide) (by decide) (by decide) (Nat.le_of_ble_eq_true rfl) (by decide) (Nat.le_of_ble_eq_true rfl) (Nat.le_of_ble_eq_true rfl) (Nat.le_of_ble_eq_true rfl)) hZ1079 (tw46 hw) (tw28 hw) (by decide) (by decide) (own_EW hw) f1107.1) q1106a q1106c (g := (mkF m 69 #[.val (.int p1), .val (.int p2), .val (.int p3), .val (.int (2 : Int32)), .val (.int (1 : Int32)), .val (.ref b674_1021), .val (.ref b502_1079), .unset, .unset] [(.ref b1082)])) rfl (by rw [hml]; rfl) (Steps.refl _) (argsL := []) (rest := []) (lenOf pd_21 rfl) rfl (by show 2 * 0 + _ ≤ _; exact Nat.le_of_eq rfl) (hb hby at_69) (fun _ _ => ⟨rfl, rfl, (by decide : 7 + 6 ≤ _), (by decide : 16 + 48 ≤ _)⟩)
      dsimp only [Pt.U, Pt.locs, Pt.cells, Pt.slots] at X1106s hs1106 hg1106 l1106 y1106 z1106 st1106 hQ1106 ch1106
      subst l1106 y1106 z1106
      have f1109 := (Nat.le_trans (Nat.le_trans (Nat.le_refl _) E1082.1) K1088.1)
      obtain ⟨X1106, hS1106, hZ1106, hown1106⟩ := rebS hS1079 (by exact f1109) X1106s hs1106 hg1106 hZ1079 hown1079
      obtain ⟨b267_404_1106, b297_325_341_364_384_404_1106, k297_325_341_364_384_404_1106, rfl, N1106q, K1106, P1106_0, P1106_1, P1106_2, P1106_3, P1106_4, P1106_5, P1106_6⟩ := hQ1106
      have N1110 := Fr.app N1089 N1106q
      have f1111 := f1107.trans ch1106
      refine GoH.step (fun _ k => st1106.trans k) ?_
      show GoH p e below s _ _ _ T1106 (mkF m 72 #[.val (.int p1), .val (.int p2), .val (.int p3), .val (.int (2 : Int32)), .val (.int (1 : Int32)), .val (.ref b674_1021), .val (.ref b502_1079), .unset, .unset] [(.ref b267_404_1106)])
      have f1112 : Arv Z T1106.heap b297_325_341_364_384_404_1106 k297_325_341_364_384_404_1106 .byte (4 : Int32) [(.int (nar .byte ((nar .char c0).toInt8.toInt32))), (.int (nar .byte ((nar .char c1).toInt8.toInt32))), (.int (35 : Int32)), (.int (nar .byte ((nar .char c2).toInt8.toInt32)))] (.int (0 : Int32)) := P1106_5
      refine GoH.step (fun _ k => XS.astore X1106.here hx rfl (hb hby at_72) rfl rfl (l' := #[.val (.int p1), .val (.int p2), .val (.int p3), .val (.int (2 : Int32)), .val (.int (1 : Int32)), .val (.ref b674_1021), .val (.ref b502_1079), .val (.ref b267_404_1106), .unset]) rfl (XS.aload X1106.here hx rfl (hb hby at_74) rfl rfl (XS.ifnonnullYes X1106.here hx rfl (pc0 := 76) (pc' := 81) rfl (hb hby at_76) rfl (by decide) (by decide) (XS.iloadN X1106.here hx rfl (hb hby at_81) rfl (XS.iconst X1106.here hx rfl (hb hby at_82) (XS.iadd X1106.here hx rfl (hb hby at_83) rfl (XS.iload X1106.here hx rfl (hb hby at_84) rfl (XS.iadd X1106.here hx rfl (hb hby at_86) rfl (XS.istore X1106.here hx rfl (hb hby at_87) rfl (l' := #[.val (.int p1), .val (.int p2), .val (.int p3), .val (.int (2 : Int32)), .val (.int (1 : Int32)), .val (.ref b674_1021), .val (.ref b502_1079), .val (.ref b267_404_1106), .val (.int (4 : Int32))]) rfl (XS.aload X1106.here hx rfl (hb hby at_89) rfl rfl k)))))))))) ?_
      show GoH p e below s _ _ _ T1106 (mkF m 91 #[.val (.int p1), .val (.int p2), .val (.int p3), .val (.int (2 : Int32)), .val (.int (1 : Int32)), .val (.ref b674_1021), .val (.ref b502_1079), .val (.ref b267_404_1106), .val (.int (4 : Int32))] [(.ref b267_404_1106)])
      have f1113 := (f1090.keep K1106 all0)
      have f1114 := (Nat.le_trans f1091 K1106.1)
      obtain ⟨cq1115, kq1115, q1115a, q1115b, q1115c⟩ := isOf hZ1106 rfl P1106_1
      obtain ⟨_, _, ⟨T1115, L1115, k1115, n1115⟩, -, X1115, ⟨Lc1115, hQ1115, l1115, y1115, z1115⟩, st1115⟩ := X1106.virtualBack hx (y := xm19) (z := xm19) hown1106 (mvT hZ1106 (tw159 hw)) (mvT hZ1106 (tw76 hw)) (notFace_of_selects (args := #[]) (mvT hZ1106 (tw78 hw))) (mvT hZ1106 (tw78 hw)) (mvT hZ1106 (tw77 hw)) (by decide) (backOf (W := 0) (rm_String_length_0 l Z a0 hw [] b267_404_1106 b297_325_341_364_384_404_1106 k297_325_341_364_384_404_1106 (4 : Int32) ([(.int (nar .byte ((nar .char c0).toInt8.toInt32))), (.int (nar .byte ((nar .char c1).toInt8.toInt32))), (.int (35 : Int32)), (.int (nar .byte ((nar .char c2).toInt8.toInt32)))]) cs T1106.heap n0 f1114 P1106_2 f1112 P1106_1 Z_S_COMPACT_STRINGS f1113 hcs P1106_3) hZ1106 (tw79 hw) (tw6 hw) (by decide) (by decide)) q1115a q1115c (g := (mkF m 91 #[.val (.int p1), .val (.int p2), .val (.int p3), .val (.int (2 : Int32)), .val (.int (1 : Int32)), .val (.ref b674_1021), .val (.ref b502_1079), .val (.ref b267_404_1106), .val (.int (4 : Int32))] [(.ref b267_404_1106)])) rfl (by rw [hml]; rfl) (Steps.refl _) (argsL := []) (rest := []) (lenOf pd_8 rfl) rfl (by show 2 * 0 + _ ≤ _; exact Nat.le_of_eq rfl) (hb hby at_91) (fun _ _ => ⟨rfl, rfl, (by decide : 13 + 0 ≤ _), (by decide : 64 + 0 ≤ _)⟩)
      dsimp only [Pt.U, Pt.locs, Pt.cells, Pt.slots] at X1115 l1115 y1115 z1115 st1115 hQ1115
      subst l1115 y1115 z1115
      obtain ⟨rfl, N1115q, eq1115⟩ := hQ1115
      have N1116 := Fr.app N1110 N1115q
      refine GoH.step (fun _ k => st1115.trans (XS.iload X1115.here hx rfl (hb hby at_94) rfl (XS.icmpYes X1115.here hx rfl (pc0 := 96) (pc' := 101) rfl (hb hby at_96) rfl (teq (by decide)).1 (by decide) (by decide) (XS.aload X1115.here hx rfl (hb hby at_101) rfl rfl (XS.aload X1115.here hx rfl (hb hby at_103) rfl rfl (XS.aload X1115.here hx rfl (hb hby at_105) rfl rfl (XS.iconst X1115.here hx rfl (hb hby at_107) k))))))) ?_
      show GoH p e below s _ _ _ T1115 (mkF m 108 #[.val (.int p1), .val (.int p2), .val (.int p3), .val (.int (2 : Int32)), .val (.int (1 : Int32)), .val (.ref b674_1021), .val (.ref b502_1079), .val (.ref b267_404_1106), .val (.int (4 : Int32))] [(.int (0 : Int32)), (.ref b502_1079), (.ref b674_1021), (.ref b267_404_1106)])
      have f1117 := (f1092.keep K1106)
      have f1118 := (f1095.keep K1106 nin0)
      have f1119 := (f1098.keep K1106 nin0)
      have f1120 := (f1099.keep K1106 nin0)
      obtain ⟨_, _, ⟨T1121, L1121, k1121, n1121⟩, -, X1121, ⟨Lc1121, hQ1121, l1121, y1121, z1121⟩, st1121⟩ := Jvm.LawKit.callS X1115 hx (y := xm35) hown1106 (mvT hZ1106 (tw160 hw)) (mvT hZ1106 (tw161 hw)) (mvT hZ1106 (tw2 hw)) (mvT hZ1106 (tw162 hw)) (by decide) (backOf (W := 0) (rm_SubjectSetTypeToStringPinLaw_ok_3 l Z a0 hw [] b267_404_1106 b674_1021 b502_1079 (0 : Int32) b297_325_341_364_384_404_1106 k297_325_341_364_384_404_1106 (4 : Int32) ([(.int (nar .byte ((nar .char c0).toInt8.toInt32))), (.int (nar .byte ((nar .char c1).toInt8.toInt32))), (.int (35 : Int32)), (.int (nar .byte ((nar .char c2).toInt8.toInt32)))]) cs b692_714_744_755_1021 k692_714_744_755_1021 (2 : Int32) ([(.int (nar .byte ((nar .char c0).toInt8.toInt32))), (.int (nar .byte ((nar .char c1).toInt8.toInt32)))]) (nar .byte ((nar .char c0).toInt8.toInt32)) fv (nar .byte ((nar .char c0).toInt8.toInt32)) T1106.heap n0 f1114 P1106_1 P1106_2 f1112 P1106_3 Z_S_COMPACT_STRINGS f1113 hcs (by decide) f1117 f1118 f1119 f1120 (by decide) rfl Z_S_SIOOBE_FORMATTER hfv (by decide) (by decide) rfl (by decide) rfl) hZ1106 (tw162 hw) (tw2 hw) (by decide) (by decide)) (g := (mkF m 108 #[.val (.int p1), .val (.int p2), .val (.int p3), .val (.int (2 : Int32)), .val (.int (1 : Int32)), .val (.ref b674_1021), .val (.ref b502_1079), .val (.ref b267_404_1106), .val (.int (4 : Int32))] [(.int (0 : Int32)), (.ref b502_1079), (.ref b674_1021), (.ref b267_404_1106)])) rfl (by rw [hml]; rfl) (argsL := [(.ref b267_404_1106), (.ref b674_1021), (.ref b502_1079), (.int (0 : Int32))]) (rest := []) (lenOf pd_24 rfl) rfl (by show 2 * 0 + _ ≤ _; exact Nat.le_of_eq rfl) (hb hby at_108) (fun _ _ => ⟨rfl, eq1115, (by decide : 13 + 0 ≤ _), (by decide : 64 + 0 ≤ _)⟩)
      dsimp only [Pt.U, Pt.locs, Pt.cells, Pt.slots] at X1121 l1121 y1121 z1121 st1121 hQ1121
      subst l1121 y1121 z1121
      obtain ⟨rfl, N1121q, eq1121⟩ := hQ1121
      have N1122 := Fr.app N1116 N1121q
      refine GoH.step (fun _ k => st1121 _ (XS.ifNo X1121.here hx rfl (hb hby at_111) rfl ((if0 _ _).trans (feq (by decide)).1) (XS.aload X1121.here hx rfl (hb hby at_114) rfl rfl (XS.aload X1121.here hx rfl (hb hby at_116) rfl rfl (XS.aload X1121.here hx rfl (hb hby at_118) rfl rfl (XS.iconst X1121.here hx rfl (hb hby at_120) k)))))) ?_
      show GoH p e below s _ _ _ T1121 (mkF m 121 #[.val (.int p1), .val (.int p2), .val (.int p3), .val (.int (2 : Int32)), .val (.int (1 : Int32)), .val (.ref b674_1021), .val (.ref b502_1079), .val (.ref b267_404_1106), .val (.int (4 : Int32))] [(.int (1 : Int32)), (.ref b502_1079), (.ref b674_1021), (.ref b267_404_1106)])
      obtain ⟨_, _, ⟨T1123, L1123, k1123, n1123⟩, -, X1123, ⟨Lc1123, hQ1123, l1123, y1123, z1123⟩, st1123⟩ := Jvm.LawKit.callS X1121 hx (y := xm35) hown1106 (mvT hZ1106 (tw160 hw)) (mvT hZ1106 (tw161 hw)) (mvT hZ1106 (tw2 hw)) (mvT hZ1106 (tw162 hw)) (by decide) (backOf (W := 0) (rm_SubjectSetTypeToStringPinLaw_ok_3 l Z a0 hw [] b267_404_1106 b674_1021 b502_1079 (1 : Int32) b297_325_341_364_384_404_1106 k297_325_341_364_384_404_1106 (4 : Int32) ([(.int (nar .byte ((nar .char c0).toInt8.toInt32))), (.int (nar .byte ((nar .char c1).toInt8.toInt32))), (.int (35 : Int32)), (.int (nar .byte ((nar .char c2).toInt8.toInt32)))]) cs b692_714_744_755_1021 k692_714_744_755_1021 (2 : Int32) ([(.int (nar .byte ((nar .char c0).toInt8.toInt32))), (.int (nar .byte ((nar .char c1).toInt8.toInt32)))]) (nar .byte ((nar .char c1).toInt8.toInt32)) fv (nar .byte ((nar .char c1).toInt8.toInt32)) T1106.heap n0 f1114 P1106_1 P1106_2 f1112 P1106_3 Z_S_COMPACT_STRINGS f1113 hcs (by decide) f1117 f1118 f1119 f1120 (by decide) rfl Z_S_SIOOBE_FORMATTER hfv (by decide) (by decide) rfl (by decide) rfl) hZ1106 (tw162 hw) (tw2 hw) (by decide) (by decide)) (g := (mkF m 121 #[.val (.int p1), .val (.int p2), .val (.int p3), .val (.int (2 : Int32)), .val (.int (1 : Int32)), .val (.ref b674_1021), .val (.ref b502_1079), .val (.ref b267_404_1106), .val (.int (4 : Int32))] [(.int (1 : Int32)), (.ref b502_1079), (.ref b674_1021), (.ref b267_404_1106)])) rfl (by rw [hml]; rfl) (argsL := [(.ref b267_404_1106), (.ref b674_1021), (.ref b502_1079), (.int (1 : Int32))]) (rest := []) (lenOf pd_24 rfl) rfl (by show 2 * 0 + _ ≤ _; exact Nat.le_of_eq rfl) (hb hby at_121) (fun _ _ => ⟨rfl, eq1121, (by decide : 13 + 0 ≤ _), (by decide : 64 + 0 ≤ _)⟩)
      dsimp only [Pt.U, Pt.locs, Pt.cells, Pt.slots] at X1123 l1123 y1123 z1123 st1123 hQ1123
      subst l1123 y1123 z1123
      obtain ⟨rfl, N1123q, eq1123⟩ := hQ1123
      have N1124 := Fr.app N1122 N1123q
      refine GoH.step (fun _ k => st1123 _ (XS.ifNo X1123.here hx rfl (hb hby at_124) rfl ((if0 _ _).trans (feq (by decide)).1) (XS.aload X1123.here hx rfl (hb hby at_127) rfl rfl (XS.aload X1123.here hx rfl (hb hby at_129) rfl rfl (XS.aload X1123.here hx rfl (hb hby at_131) rfl rfl (XS.iconst X1123.here hx rfl (hb hby at_133) k)))))) ?_
      show GoH p e below s _ _ _ T1123 (mkF m 134 #[.val (.int p1), .val (.int p2), .val (.int p3), .val (.int (2 : Int32)), .val (.int (1 : Int32)), .val (.ref b674_1021), .val (.ref b502_1079), .val (.ref b267_404_1106), .val (.int (4 : Int32))] [(.int (2 : Int32)), (.ref b502_1079), (.ref b674_1021), (.ref b267_404_1106)])
      obtain ⟨_, _, ⟨T1125, L1125, k1125, n1125⟩, -, X1125, ⟨Lc1125, hQ1125, l1125, y1125, z1125⟩, st1125⟩ := Jvm.LawKit.callS X1123 hx (y := xm35) hown1106 (mvT hZ1106 (tw160 hw)) (mvT hZ1106 (tw161 hw)) (mvT hZ1106 (tw2 hw)) (mvT hZ1106 (tw162 hw)) (by decide) (backOf (W := 0) (rm_SubjectSetTypeToStringPinLaw_ok_0 l Z a0 hw [] b267_404_1106 b674_1021 b502_1079 (2 : Int32) b297_325_341_364_384_404_1106 k297_325_341_364_384_404_1106 (4 : Int32) ([(.int (nar .byte ((nar .char c0).toInt8.toInt32))), (.int (nar .byte ((nar .char c1).toInt8.toInt32))), (.int (35 : Int32)), (.int (nar .byte ((nar .char c2).toInt8.toInt32)))]) cs b692_714_744_755_1021 k692_714_744_755_1021 (2 : Int32) ([(.int (nar .byte ((nar .char c0).toInt8.toInt32))), (.int (nar .byte ((nar .char c1).toInt8.toInt32)))]) fv (35 : Int32) T1106.heap n0 f1114 P1106_1 P1106_2 f1112 P1106_3 Z_S_COMPACT_STRINGS f1113 hcs (by decide) f1117 f1118 f1119 f1120 (by decide) (by decide) Z_S_SIOOBE_FORMATTER hfv rfl (by decide) (by decide) (by decide)) hZ1106 (tw162 hw) (tw2 hw) (by decide) (by decide)) (g := (mkF m 134 #[.val (.int p1), .val (.int p2), .val (.int p3), .val (.int (2 : Int32)), .val (.int (1 : Int32)), .val (.ref b674_1021), .val (.ref b502_1079), .val (.ref b267_404_1106), .val (.int (4 : Int32))] [(.int (2 : Int32)), (.ref b502_1079), (.ref b674_1021), (.ref b267_404_1106)])) rfl (by rw [hml]; rfl) (argsL := [(.ref b267_404_1106), (.ref b674_1021), (.ref b502_1079), (.int (2 : Int32))]) (rest := []) (lenOf pd_24 rfl) rfl (by show 2 * 0 + _ ≤ _; exact Nat.le_of_eq rfl) (hb hby at_134) (fun _ _ => ⟨rfl, eq1123, (by decide : 13 + 0 ≤ _), (by decide : 64 + 0 ≤ _)⟩)
      dsimp only [Pt.U, Pt.locs, Pt.cells, Pt.slots] at X1125 l1125 y1125 z1125 st1125 hQ1125
      subst l1125 y1125 z1125
      obtain ⟨rfl, N1125q, eq1125⟩ := hQ1125
      have N1126 := Fr.app N1124 N1125q
      refine GoH.step (fun _ k => st1125 _ (XS.ifNo X1125.here hx rfl (hb hby at_137) rfl ((if0 _ _).trans (feq (by decide)).1) (XS.aload X1125.here hx rfl (hb hby at_140) rfl rfl (XS.aload X1125.here hx rfl (hb hby at_142) rfl rfl (XS.aload X1125.here hx rfl (hb hby at_144) rfl rfl (XS.iconst X1125.here hx rfl (hb hby at_146) k)))))) ?_
      show GoH p e below s _ _ _ T1125 (mkF m 147 #[.val (.int p1), .val (.int p2), .val (.int p3), .val (.int (2 : Int32)), .val (.int (1 : Int32)), .val (.ref b674_1021), .val (.ref b502_1079), .val (.ref b267_404_1106), .val (.int (4 : Int32))] [(.int (3 : Int32)), (.ref b502_1079), (.ref b674_1021), (.ref b267_404_1106)])
      have f1127 := (f1100.keep K1106)
      have f1128 := (f1105.keep K1106 nin0)
      have f1129 := (f1102.keep K1106 nin0)
      have f1130 := (f1104.keep K1106 nin0)
      obtain ⟨_, _, ⟨T1131, L1131, k1131, n1131⟩, -, X1131, ⟨Lc1131, hQ1131, l1131, y1131, z1131⟩, st1131⟩ := Jvm.LawKit.callS X1125 hx (y := xm35) hown1106 (mvT hZ1106 (tw160 hw)) (mvT hZ1106 (tw161 hw)) (mvT hZ1106 (tw2 hw)) (mvT hZ1106 (tw162 hw)) (by decide) (backOf (W := 0) (rm_SubjectSetTypeToStringPinLaw_ok_2 l Z a0 hw [] b267_404_1106 b674_1021 b502_1079 (3 : Int32) b297_325_341_364_384_404_1106 k297_325_341_364_384_404_1106 (4 : Int32) ([(.int (nar .byte ((nar .char c0).toInt8.toInt32))), (.int (nar .byte ((nar .char c1).toInt8.toInt32))), (.int (35 : Int32)), (.int (nar .byte ((nar .char c2).toInt8.toInt32)))]) cs b692_714_744_755_1021 k692_714_744_755_1021 (2 : Int32) ([(.int (nar .byte ((nar .char c0).toInt8.toInt32))), (.int (nar .byte ((nar .char c1).toInt8.toInt32)))]) b516_532_561_572_1079 k516_532_561_572_1079 (1 : Int32) ([(.int (nar .byte ((nar .char c2).toInt8.toInt32)))]) (nar .byte ((nar .char c2).toInt8.toInt32)) fv (nar .byte ((nar .char c2).toInt8.toInt32)) T1106.heap n0 f1114 P1106_1 P1106_2 f1112 P1106_3 Z_S_COMPACT_STRINGS f1113 hcs (by decide) f1117 f1118 f1119 f1120 (by decide) (by decide) f1127 f1128 f1129 f1130 rfl Z_S_SIOOBE_FORMATTER hfv (by decide) (by decide) rfl (by decide) (by decide) rfl) hZ1106 (tw162 hw) (tw2 hw) (by decide) (by decide)) (g := (mkF m 147 #[.val (.int p1), .val (.int p2), .val (.int p3), .val (.int (2 : Int32)), .val (.int (1 : Int32)), .val (.ref b674_1021), .val (.ref b502_1079), .val (.ref b267_404_1106), .val (.int (4 : Int32))] [(.int (3 : Int32)), (.ref b502_1079), (.ref b674_1021), (.ref b267_404_1106)])) rfl (by rw [hml]; rfl) (argsL := [(.ref b267_404_1106), (.ref b674_1021), (.ref b502_1079), (.int (3 : Int32))]) (rest := []) (lenOf pd_24 rfl) rfl (by show 2 * 0 + _ ≤ _; exact Nat.le_of_eq rfl) (hb hby at_147) (fun _ _ => ⟨rfl, eq1125, (by decide : 13 + 0 ≤ _), (by decide : 64 + 0 ≤ _)⟩)
      dsimp only [Pt.U, Pt.locs, Pt.cells, Pt.slots] at X1131 l1131 y1131 z1131 st1131 hQ1131
      subst l1131 y1131 z1131
      obtain ⟨rfl, N1131q, eq1131⟩ := hQ1131
      have N1132 := Fr.app N1126 N1131q
      refine GoH.step (fun _ k => st1131 _ (XS.ifNo X1131.here hx rfl (hb hby at_150) rfl ((if0 _ _).trans (feq (by decide)).1) (XS.aload X1131.here hx rfl (hb hby at_153) rfl rfl (XS.aload X1131.here hx rfl (hb hby at_155) rfl rfl (XS.aload X1131.here hx rfl (hb hby at_157) rfl rfl (XS.iconst X1131.here hx rfl (hb hby at_159) k)))))) ?_
      show GoH p e below s _ _ _ T1131 (mkF m 160 #[.val (.int p1), .val (.int p2), .val (.int p3), .val (.int (2 : Int32)), .val (.int (1 : Int32)), .val (.ref b674_1021), .val (.ref b502_1079), .val (.ref b267_404_1106), .val (.int (4 : Int32))] [(.int (4 : Int32)), (.ref b502_1079), (.ref b674_1021), (.ref b267_404_1106)])
      obtain ⟨_, _, ⟨T1133, L1133, k1133, n1133⟩, -, X1133, ⟨Lc1133, hQ1133, l1133, y1133, z1133⟩, st1133⟩ := Jvm.LawKit.callS X1131 hx (y := xm35) hown1106 (mvT hZ1106 (tw160 hw)) (mvT hZ1106 (tw161 hw)) (mvT hZ1106 (tw2 hw)) (mvT hZ1106 (tw162 hw)) (by decide) (backOf (W := 0) (rm_SubjectSetTypeToStringPinLaw_ok_1 l Z a0 hw [] b267_404_1106 b674_1021 b502_1079 (4 : Int32) b297_325_341_364_384_404_1106 k297_325_341_364_384_404_1106 (4 : Int32) ([(.int (nar .byte ((nar .char c0).toInt8.toInt32))), (.int (nar .byte ((nar .char c1).toInt8.toInt32))), (.int (35 : Int32)), (.int (nar .byte ((nar .char c2).toInt8.toInt32)))]) cs T1106.heap n0 f1114 P1106_1 P1106_2 f1112 P1106_3 Z_S_COMPACT_STRINGS f1113 hcs (by decide)) hZ1106 (tw162 hw) (tw2 hw) (by decide) (by decide)) (g := (mkF m 160 #[.val (.int p1), .val (.int p2), .val (.int p3), .val (.int (2 : Int32)), .val (.int (1 : Int32)), .val (.ref b674_1021), .val (.ref b502_1079), .val (.ref b267_404_1106), .val (.int (4 : Int32))] [(.int (4 : Int32)), (.ref b502_1079), (.ref b674_1021), (.ref b267_404_1106)])) rfl (by rw [hml]; rfl) (argsL := [(.ref b267_404_1106), (.ref b674_1021), (.ref b502_1079), (.int (4 : Int32))]) (rest := []) (lenOf pd_24 rfl) rfl (by show 2 * 0 + _ ≤ _; exact Nat.le_of_eq rfl) (hb hby at_160) (fun _ _ => ⟨rfl, eq1131, (by decide : 13 + 0 ≤ _), (by decide : 64 + 0 ≤ _)⟩)
      dsimp only [Pt.U, Pt.locs, Pt.cells, Pt.slots] at X1133 l1133 y1133 z1133 st1133 hQ1133
      subst l1133 y1133 z1133
      obtain ⟨rfl, N1133q, eq1133⟩ := hQ1133
      have N1134 := Fr.app N1132 N1133q
      refine GoH.step (fun _ k => st1133 _ (XS.ifNo X1133.here hx rfl (hb hby at_163) rfl ((if0 _ _).trans (feq (by decide)).1) (XS.iconst X1133.here hx rfl (hb hby at_166) (XS.goto X1133.here hx rfl (pc0 := 167) (pc' := 171) rfl (hb hby at_167) (by decide) (by decide) k)))) ?_
      show GoH p e below s _ _ _ T1133 (mkF m 171 #[.val (.int p1), .val (.int p2), .val (.int p3), .val (.int (2 : Int32)), .val (.int (1 : Int32)), .val (.ref b674_1021), .val (.ref b502_1079), .val (.ref b267_404_1106), .val (.int (4 : Int32))] [(.int (1 : Int32))])
      exact GoH.retN X1133 hS1106 hx hlk (t := .boolean) Bd.returns (by simp) (hb hby at_171) eq1133 (Nat.le_refl _) ⟨rfl, N1134⟩ (f1111.trans (CHv.at X1133 hZ1106 (own_EW hw) f1111.1)) (by decide) (by decide)
    · show GoH p e below s _ _ _ T1021 (mkF m 53 #[.val (.int p1), .val (.int p2), .val (.int p3), .val (.int (2 : Int32)), .val (.int (2 : Int32)), .val (.ref b674_1021), .unset, .unset, .unset] [(.int c3), (.int c2), (.int (2 : Int32))])
      have f1135 := (O0.keep K1021 all0)
      have f1136 := (Nat.le_trans Z0 K1021.1)
      obtain ⟨_, _, ⟨T1137, L1137, k1137, n1137⟩, -, X1137s, hs1137, hg1137, ⟨Lc1137, hQ1137, l1137, y1137, z1137, ch1137⟩, st1137⟩ := callSS X1021 hx (y := xm34) hown1021 (mvT hZ1021 (tw0 hw)) (mvT hZ1021 (tw1 hw)) (mvT hZ1021 (tw2 hw)) (mvT hZ1021 (tw3 hw)) (by decide) (backOfSH (W := 0) (rm_SubjectSetTypeToStringPinLaw_mk_2 l Z a0 hw [] c2 c3 cs T1021.heap n0 f1136 Z_S_COMPACT_STRINGS f1135 hcs hc2 hc3) hZ1021 (tw3 hw) (tw2 hw) (by decide) (by decide) (own_EW hw) f1023.1) (g := (mkF m 53 #[.val (.int p1), .val (.int p2), .val (.int p3), .val (.int (2 : Int32)), .val (.int (2 : Int32)), .val (.ref b674_1021), .unset, .unset, .unset] [(.int c3), (.int c2), (.int (2 : Int32))])) rfl (by rw [hml]; rfl) (argsL := [(.int (2 : Int32)), (.int c2), (.int c3)]) (rest := []) (lenOf pd_3 rfl) rfl (by show 2 * 0 + _ ≤ _; exact Nat.le_of_eq rfl) (hb hby at_53) (fun _ _ => ⟨rfl, rfl, (by decide : 3 + 3 ≤ _), (by decide : 8 + 8 ≤ _)⟩)
      dsimp only [Pt.U, Pt.locs, Pt.cells, Pt.slots] at X1137s hs1137 hg1137 l1137 y1137 z1137 st1137 hQ1137 ch1137
      subst l1137 y1137 z1137
      obtain ⟨X1137, hS1137, hZ1137, hown1137⟩ := rebS hS1021 (by exact (Nat.le_refl _)) X1137s hs1137 hg1137 hZ1021 hown1021
      obtain ⟨b674_1137, b692_714_744_755_1137, k692_714_744_755_1137, rfl, N1137q, K1137, P1137_0, P1137_1, P1137_2, P1137_3, P1137_4, P1137_5, P1137_6⟩ := hQ1137
      have N1138 := Fr.app N1022 N1137q
      have f1139 := f1023.trans ch1137
      refine GoH.step (fun _ k => st1137.trans (XS.astore X1137.here hx rfl (hb hby at_56) rfl rfl (l' := #[.val (.int p1), .val (.int p2), .val (.int p3), .val (.int (2 : Int32)), .val (.int (2 : Int32)), .val (.ref b674_1021), .val (.ref b674_1137), .unset, .unset]) rfl k)) ?_
      show GoH p e below s _ _ _ T1137 (mkF m 58 #[.val (.int p1), .val (.int p2), .val (.int p3), .val (.int (2 : Int32)), .val (.int (2 : Int32)), .val (.ref b674_1021), .val (.ref b674_1137), .unset, .unset] [])
      obtain ⟨T1140, h1140, X1140, e1140, E1140, A1140, D1140, -, st1140⟩ := newO X1137 hx hZ1137 hown1137 (tw26 hw) (tw27 hw) (tw28 hw) rfl (g := (mkF m 58 #[.val (.int p1), .val (.int p2), .val (.int p3), .val (.int (2 : Int32)), .val (.int (2 : Int32)), .val (.ref b674_1021), .val (.ref b674_1137), .unset, .unset] [])) rfl (hb hby at_58) (by decide) (by decide)
      obtain ⟨b1140, g1140⟩ : ∃ z, z = T1137.heap.size := ⟨_, rfl⟩
      rw [← g1140] at A1140 D1140 st1140
      have f1141 : Fld Z h1140 b1140 xs2 "type" xs21 .null := D1140 (Or.inr (tw39 hw)) (ty := (.object xs25)) (by decide)
      have f1142 : Fld Z h1140 b1140 xs2 "relation" xs21 .null := D1140 (Or.inr (tw41 hw)) (ty := (.object xs25)) (by decide)
      refine GoH.step (fun _ k => st1140 _ (XS.dup X1140.here hx rfl (hb hby at_61) rfl rfl (XS.aload X1140.here hx rfl (hb hby at_62) rfl rfl (XS.aload X1140.here hx rfl (hb hby at_64) rfl rfl k)))) ?_
      show GoH p e below s _ _ _ T1140 (mkF m 66 #[.val (.int p1), .val (.int p2), .val (.int p3), .val (.int (2 : Int32)), .val (.int (2 : Int32)), .val (.ref b674_1021), .val (.ref b674_1137), .unset, .unset] [(.ref b674_1137), (.ref b674_1021), (.ref b1140), (.ref b1140)])
      have f1143 := (Nat.le_trans (Nat.le_trans f1136 K1137.1) E1140.1)
      have f1144 := (Nat.le_trans f1136 K1137.1)
      have g1145 := Nat.le_trans f1144 (Nat.le_of_eq g1140.symm)
      obtain ⟨_, _, ⟨T1146, L1146, k1146, n1146⟩, -, X1146, ⟨Lc1146, hQ1146, l1146, y1146, z1146⟩, st1146⟩ := X1140.specialBack hx (y := xm31) rfl hown1137 (mvT hZ1137 (tw29 hw)) (mvT hZ1137 (tw30 hw)) (mvT hZ1137 (tw31 hw)) (by decide) (backOf (W := 1) (rm_SubjectSetType_new_0 l Z a0 hw [] b1140 b674_1021 b674_1137 h1140 n0 f1143 A1140 f1141 g1145 f1142) hZ1137 (tw31 hw) (tw28 hw) (by decide) (by decide)) (g := (mkF m 66 #[.val (.int p1), .val (.int p2), .val (.int p3), .val (.int (2 : Int32)), .val (.int (2 : Int32)), .val (.ref b674_1021), .val (.ref b674_1137), .unset, .unset] [(.ref b674_1137), (.ref b674_1021), (.ref b1140), (.ref b1140)])) rfl (by rw [hml]; rfl) (Steps.refl _) (a := b1140) (argsL := [(.ref b674_1021), (.ref b674_1137)]) (rest := [(.ref b1140)]) (lenOf pd_5 rfl) rfl (by show 2 * 0 + _ ≤ _; exact Nat.le_of_eq rfl) (hb hby at_66) (fun _ _ => ⟨rfl, e1140, (by decide : 7 + 0 ≤ _), (by decide : 18 + 0 ≤ _)⟩)
      dsimp only [Pt.U, Pt.locs, Pt.cells, Pt.slots] at X1146 l1146 y1146 z1146 st1146 hQ1146
      subst l1146 y1146 z1146
      obtain ⟨rfl, N1146q, K1146, P1146_0, P1146_1⟩ := hQ1146
      have N1147 := Fr.app N1138 N1146q
      refine GoH.step (fun _ k => st1146.trans k) ?_
      show GoH p e below s _ _ _ T1146 (mkF m 69 #[.val (.int p1), .val (.int p2), .val (.int p3), .val (.int (2 : Int32)), .val (.int (2 : Int32)), .val (.ref b674_1021), .val (.ref b674_1137), .unset, .unset] [(.ref b1140)])
      have f1148 := (((f1135.keep K1137 all0).ext E1140).keep K1146 (allS g1145 all0))
      have f1149 := (Nat.le_trans f1143 K1146.1)
      have f1150 := (((P1021_1.keep K1137).ext E1140).keep K1146)
      have f1151 := (P1021_1.keep K1137)
      have ne1152 : b674_1021 ≠ b1140 := Nat.ne_of_lt (Nat.lt_of_lt_of_le f1151.lt (Nat.le_of_eq g1140.symm))
      have f1153 := (((P1021_2.keep K1137 nin0).ext E1140).keep K1146 (ninS ne1152 nin0))
      have f1154 := (P1021_5.keep K1137 nin0)
      have ne1155 : b692_714_744_755_1021 ≠ b1140 := Nat.ne_of_lt (Nat.lt_of_lt_of_le f1154.lt (Nat.le_of_eq g1140.symm))
      have f1156 := (((P1021_5.keep K1137 nin0).ext E1140).keep K1146 (ninS ne1155 nin0))
      have f1157 := (((P1021_3.keep K1137 nin0).ext E1140).keep K1146 (ninS ne1152 nin0))
      have f1158 := ((P1137_1.ext E1140).keep K1146)
      have ne1159 : b674_1137 ≠ b1140 := Nat.ne_of_lt (Nat.lt_of_lt_of_le P1137_1.lt (Nat.le_of_eq g1140.symm))
      have f1160 := ((P1137_2.ext E1140).keep K1146 (ninS ne1159 nin0))
      have ne1161 : b692_714_744_755_1137 ≠ b1140 := Nat.ne_of_lt (Nat.lt_of_lt_of_le P1137_5.lt (Nat.le_of_eq g1140.symm))
      have f1162 := ((P1137_5.ext E1140).keep K1146 (ninS ne1161 nin0))
      have f1163 := ((P1137_3.ext E1140).keep K1146 (ninS ne1159 nin0))
      have f1165 := (own_chK (own_chE f1139 E1140) K1146 (sfS (Safe.exa hZ1137.alike A1140 (by decide) (by decide)) sf0))
      have f1166 := (A1140.keep K1146)
      obtain ⟨cq1164, kq1164, q1164a, q1164b, q1164c⟩ := isOf hZ1137 rfl f1166
      obtain ⟨_, _, ⟨T1164, L1164, k1164, n1164⟩, -, X1164s, hs1164, hg1164, ⟨Lc1164, hQ1164, l1164, y1164, z1164, ch1164⟩, st1164⟩ := X1146.virtualBackS hx (y := xm22) (z := xm22) hown1137 (mvT hZ1137 (tw42 hw)) (mvT hZ1137 (tw43 hw)) (notFace_of_selects (args := #[]) (mvT hZ1137 (tw45 hw))) (mvT hZ1137 (tw45 hw)) (mvT hZ1137 (tw44 hw)) (by decide) (backOfSH (W := 0) (rm_SubjectSetType_toString_0 l Z a0 hw [] b1140 cs b674_1021 b692_714_744_755_1021 k692_714_744_755_1021 (2 : Int32) ([(.int (nar .byte ((nar .char c0).toInt8.toInt32))), (.int (nar .byte ((nar .char c1).toInt8.toInt32)))]) b674_1137 b692_714_744_755_1137 k692_714_744_755_1137 (2 : Int32) ([(.int (nar .byte ((nar .char c2).toInt8.toInt32))), (.int (nar .byte ((nar .char c3).toInt8.toInt32)))]) T1146.heap n0 f1149 Z_S_COMPACT_STRINGS f1148 hcs P1146_0 f1150 f1153 f1156 f1157 (by decide) (by decide) (Nat.le_of_ble_eq_true rfl) (Nat.le_of_ble_eq_true rfl) (Nat.le_of_ble_eq_true rfl) (by decide) (by decide) (Nat.le_of_ble_eq_true rfl) (Nat.le_of_ble_eq_true rfl) P1146_1 f1158 f1160 f1162 f1163 (by decide) (by decide) (by decide) (Nat.le_of_ble_eq_true rfl) (Nat.le_of_ble_eq_true rfl) (Nat.le_of_ble_eq_true rfl) (by decide) (by decide) (by decide) (Nat.le_of_ble_eq_true rfl) (by decide) (Nat.le_of_ble_eq_true rfl) (Nat.le_of_ble_eq_true rfl) (Nat.le_of_ble_eq_true rfl)) hZ1137 (tw46 hw) (tw28 hw) (by decide) (by decide) (own_EW hw) f1165.1) q1164a q1164c (g := (mkF m 69 #[.val (.int p1), .val (.int p2), .val (.int p3), .val (.int (2 : Int32)), .val (.int (2 : Int32)), .val (.ref b674_1021), .val (.ref b674_1137), .unset, .unset] [(.ref b1140)])) rfl (by rw [hml]; rfl) (Steps.refl _) (argsL := []) (rest := []) (lenOf pd_21 rfl) rfl (by show 2 * 0 + _ ≤ _; exact Nat.le_of_eq rfl) (hb hby at_69) (fun _ _ => ⟨rfl, rfl, (by decide : 7 + 6 ≤ _), (by decide : 18 + 48 ≤ _)⟩)
      dsimp only [Pt.U, Pt.locs, Pt.cells, Pt.slots] at X1164s hs1164 hg1164 l1164 y1164 z1164 st1164 hQ1164 ch1164
      subst l1164 y1164 z1164
      have f1167 := (Nat.le_trans (Nat.le_trans (Nat.le_refl _) E1140.1) K1146.1)
      obtain ⟨X1164, hS1164, hZ1164, hown1164⟩ := rebS hS1137 (by exact f1167) X1164s hs1164 hg1164 hZ1137 hown1137
      obtain ⟨b267_404_1164, b297_325_341_364_384_404_1164, k297_325_341_364_384_404_1164, rfl, N1164q, K1164, P1164_0, P1164_1, P1164_2, P1164_3, P1164_4, P1164_5, P1164_6⟩ := hQ1164
      have N1168 := Fr.app N1147 N1164q
      have f1169 := f1165.trans ch1164
      refine GoH.step (fun _ k => st1164.trans k) ?_
      show GoH p e below s _ _ _ T1164 (mkF m 72 #[.val (.int p1), .val (.int p2), .val (.int p3), .val (.int (2 : Int32)), .val (.int (2 : Int32)), .val (.ref b674_1021), .val (.ref b674_1137), .unset, .unset] [(.ref b267_404_1164)])
      have f1170 : Arv Z T1164.heap b297_325_341_364_384_404_1164 k297_325_341_364_384_404_1164 .byte (5 : Int32) [(.int (nar .byte ((nar .char c0).toInt8.toInt32))), (.int (nar .byte ((nar .char c1).toInt8.toInt32))), (.int (35 : Int32)), (.int (nar .byte ((nar .char c2).toInt8.toInt32))), (.int (nar .byte ((nar .char c3).toInt8.toInt32)))] (.int (0 : Int32)) := P1164_5
      refine GoH.step (fun _ k => XS.astore X1164.here hx rfl (hb hby at_72) rfl rfl (l' := #[.val (.int p1), .val (.int p2), .val (.int p3), .val (.int (2 : Int32)), .val (.int (2 : Int32)), .val (.ref b674_1021), .val (.ref b674_1137), .val (.ref b267_404_1164), .unset]) rfl (XS.aload X1164.here hx rfl (hb hby at_74) rfl rfl (XS.ifnonnullYes X1164.here hx rfl (pc0 := 76) (pc' := 81) rfl (hb hby at_76) rfl (by decide) (by decide) (XS.iloadN X1164.here hx rfl (hb hby at_81) rfl (XS.iconst X1164.here hx rfl (hb hby at_82) (XS.iadd X1164.here hx rfl (hb hby at_83) rfl (XS.iload X1164.here hx rfl (hb hby at_84) rfl (XS.iadd X1164.here hx rfl (hb hby at_86) rfl (XS.istore X1164.here hx rfl (hb hby at_87) rfl (l' := #[.val (.int p1), .val (.int p2), .val (.int p3), .val (.int (2 : Int32)), .val (.int (2 : Int32)), .val (.ref b674_1021), .val (.ref b674_1137), .val (.ref b267_404_1164), .val (.int (5 : Int32))]) rfl (XS.aload X1164.here hx rfl (hb hby at_89) rfl rfl k)))))))))) ?_
      show GoH p e below s _ _ _ T1164 (mkF m 91 #[.val (.int p1), .val (.int p2), .val (.int p3), .val (.int (2 : Int32)), .val (.int (2 : Int32)), .val (.ref b674_1021), .val (.ref b674_1137), .val (.ref b267_404_1164), .val (.int (5 : Int32))] [(.ref b267_404_1164)])
      have f1171 := (f1148.keep K1164 all0)
      have f1172 := (Nat.le_trans f1149 K1164.1)
      obtain ⟨cq1173, kq1173, q1173a, q1173b, q1173c⟩ := isOf hZ1164 rfl P1164_1
      obtain ⟨_, _, ⟨T1173, L1173, k1173, n1173⟩, -, X1173, ⟨Lc1173, hQ1173, l1173, y1173, z1173⟩, st1173⟩ := X1164.virtualBack hx (y := xm19) (z := xm19) hown1164 (mvT hZ1164 (tw159 hw)) (mvT hZ1164 (tw76 hw)) (notFace_of_selects (args := #[]) (mvT hZ1164 (tw78 hw))) (mvT hZ1164 (tw78 hw)) (mvT hZ1164 (tw77 hw)) (by decide) (backOf (W := 0) (rm_String_length_0 l Z a0 hw [] b267_404_1164 b297_325_341_364_384_404_1164 k297_325_341_364_384_404_1164 (5 : Int32) ([(.int (nar .byte ((nar .char c0).toInt8.toInt32))), (.int (nar .byte ((nar .char c1).toInt8.toInt32))), (.int (35 : Int32)), (.int (nar .byte ((nar .char c2).toInt8.toInt32))), (.int (nar .byte ((nar .char c3).toInt8.toInt32)))]) cs T1164.heap n0 f1172 P1164_2 f1170 P1164_1 Z_S_COMPACT_STRINGS f1171 hcs P1164_3) hZ1164 (tw79 hw) (tw6 hw) (by decide) (by decide)) q1173a q1173c (g := (mkF m 91 #[.val (.int p1), .val (.int p2), .val (.int p3), .val (.int (2 : Int32)), .val (.int (2 : Int32)), .val (.ref b674_1021), .val (.ref b674_1137), .val (.ref b267_404_1164), .val (.int (5 : Int32))] [(.ref b267_404_1164)])) rfl (by rw [hml]; rfl) (Steps.refl _) (argsL := []) (rest := []) (lenOf pd_8 rfl) rfl (by show 2 * 0 + _ ≤ _; exact Nat.le_of_eq rfl) (hb hby at_91) (fun _ _ => ⟨rfl, rfl, (by decide : 13 + 0 ≤ _), (by decide : 66 + 0 ≤ _)⟩)
      dsimp only [Pt.U, Pt.locs, Pt.cells, Pt.slots] at X1173 l1173 y1173 z1173 st1173 hQ1173
      subst l1173 y1173 z1173
      obtain ⟨rfl, N1173q, eq1173⟩ := hQ1173
      have N1174 := Fr.app N1168 N1173q
      refine GoH.step (fun _ k => st1173.trans (XS.iload X1173.here hx rfl (hb hby at_94) rfl (XS.icmpYes X1173.here hx rfl (pc0 := 96) (pc' := 101) rfl (hb hby at_96) rfl (teq (by decide)).1 (by decide) (by decide) (XS.aload X1173.here hx rfl (hb hby at_101) rfl rfl (XS.aload X1173.here hx rfl (hb hby at_103) rfl rfl (XS.aload X1173.here hx rfl (hb hby at_105) rfl rfl (XS.iconst X1173.here hx rfl (hb hby at_107) k))))))) ?_
      show GoH p e below s _ _ _ T1173 (mkF m 108 #[.val (.int p1), .val (.int p2), .val (.int p3), .val (.int (2 : Int32)), .val (.int (2 : Int32)), .val (.ref b674_1021), .val (.ref b674_1137), .val (.ref b267_404_1164), .val (.int (5 : Int32))] [(.int (0 : Int32)), (.ref b674_1137), (.ref b674_1021), (.ref b267_404_1164)])
      have f1175 := (f1150.keep K1164)
      have f1176 := (f1153.keep K1164 nin0)
      have f1177 := (f1156.keep K1164 nin0)
      have f1178 := (f1157.keep K1164 nin0)
      obtain ⟨_, _, ⟨T1179, L1179, k1179, n1179⟩, -, X1179, ⟨Lc1179, hQ1179, l1179, y1179, z1179⟩, st1179⟩ := Jvm.LawKit.callS X1173 hx (y := xm35) hown1164 (mvT hZ1164 (tw160 hw)) (mvT hZ1164 (tw161 hw)) (mvT hZ1164 (tw2 hw)) (mvT hZ1164 (tw162 hw)) (by decide) (backOf (W := 0) (rm_SubjectSetTypeToStringPinLaw_ok_3 l Z a0 hw [] b267_404_1164 b674_1021 b674_1137 (0 : Int32) b297_325_341_364_384_404_1164 k297_325_341_364_384_404_1164 (5 : Int32) ([(.int (nar .byte ((nar .char c0).toInt8.toInt32))), (.int (nar .byte ((nar .char c1).toInt8.toInt32))), (.int (35 : Int32)), (.int (nar .byte ((nar .char c2).toInt8.toInt32))), (.int (nar .byte ((nar .char c3).toInt8.toInt32)))]) cs b692_714_744_755_1021 k692_714_744_755_1021 (2 : Int32) ([(.int (nar .byte ((nar .char c0).toInt8.toInt32))), (.int (nar .byte ((nar .char c1).toInt8.toInt32)))]) (nar .byte ((nar .char c0).toInt8.toInt32)) fv (nar .byte ((nar .char c0).toInt8.toInt32)) T1164.heap n0 f1172 P1164_1 P1164_2 f1170 P1164_3 Z_S_COMPACT_STRINGS f1171 hcs (by decide) f1175 f1176 f1177 f1178 (by decide) rfl Z_S_SIOOBE_FORMATTER hfv (by decide) (by decide) rfl (by decide) rfl) hZ1164 (tw162 hw) (tw2 hw) (by decide) (by decide)) (g := (mkF m 108 #[.val (.int p1), .val (.int p2), .val (.int p3), .val (.int (2 : Int32)), .val (.int (2 : Int32)), .val (.ref b674_1021), .val (.ref b674_1137), .val (.ref b267_404_1164), .val (.int (5 : Int32))] [(.int (0 : Int32)), (.ref b674_1137), (.ref b674_1021), (.ref b267_404_1164)])) rfl (by rw [hml]; rfl) (argsL := [(.ref b267_404_1164), (.ref b674_1021), (.ref b674_1137), (.int (0 : Int32))]) (rest := []) (lenOf pd_24 rfl) rfl (by show 2 * 0 + _ ≤ _; exact Nat.le_of_eq rfl) (hb hby at_108) (fun _ _ => ⟨rfl, eq1173, (by decide : 13 + 0 ≤ _), (by decide : 66 + 0 ≤ _)⟩)
      dsimp only [Pt.U, Pt.locs, Pt.cells, Pt.slots] at X1179 l1179 y1179 z1179 st1179 hQ1179
      subst l1179 y1179 z1179
      obtain ⟨rfl, N1179q, eq1179⟩ := hQ1179
      have N1180 := Fr.app N1174 N1179q
      refine GoH.step (fun _ k => st1179 _ (XS.ifNo X1179.here hx rfl (hb hby at_111) rfl ((if0 _ _).trans (feq (by decide)).1) (XS.aload X1179.here hx rfl (hb hby at_114) rfl rfl (XS.aload X1179.here hx rfl (hb hby at_116) rfl rfl (XS.aload X1179.here hx rfl (hb hby at_118) rfl rfl (XS.iconst X1179.here hx rfl (hb hby at_120) k)))))) ?_
      show GoH p e below s _ _ _ T1179 (mkF m 121 #[.val (.int p1), .val (.int p2), .val (.int p3), .val (.int (2 : Int32)), .val (.int (2 : Int32)), .val (.ref b674_1021), .val (.ref b674_1137), .val (.ref b267_404_1164), .val (.int (5 : Int32))] [(.int (1 : Int32)), (.ref b674_1137), (.ref b674_1021), (.ref b267_404_1164)])
      obtain ⟨_, _, ⟨T1181, L1181, k1181, n1181⟩, -, X1181, ⟨Lc1181, hQ1181, l1181, y1181, z1181⟩, st1181⟩ := Jvm.LawKit.callS X1179 hx (y := xm35) hown1164 (mvT hZ1164 (tw160 hw)) (mvT hZ1164 (tw161 hw)) (mvT hZ1164 (tw2 hw)) (mvT hZ1164 (tw162 hw)) (by decide) (backOf (W := 0) (rm_SubjectSetTypeToStringPinLaw_ok_3 l Z a0 hw [] b267_404_1164 b674_1021 b674_1137 (1 : Int32) b297_325_341_364_384_404_1164 k297_325_341_364_384_404_1164 (5 : Int32) ([(.int (nar .byte ((nar .char c0).toInt8.toInt32))), (.int (nar .byte ((nar .char c1).toInt8.toInt32))), (.int (35 : Int32)), (.int (nar .byte ((nar .char c2).toInt8.toInt32))), (.int (nar .byte ((nar .char c3).toInt8.toInt32)))]) cs b692_714_744_755_1021 k692_714_744_755_1021 (2 : Int32) ([(.int (nar .byte ((nar .char c0).toInt8.toInt32))), (.int (nar .byte ((nar .char c1).toInt8.toInt32)))]) (nar .byte ((nar .char c1).toInt8.toInt32)) fv (nar .byte ((nar .char c1).toInt8.toInt32)) T1164.heap n0 f1172 P1164_1 P1164_2 f1170 P1164_3 Z_S_COMPACT_STRINGS f1171 hcs (by decide) f1175 f1176 f1177 f1178 (by decide) rfl Z_S_SIOOBE_FORMATTER hfv (by decide) (by decide) rfl (by decide) rfl) hZ1164 (tw162 hw) (tw2 hw) (by decide) (by decide)) (g := (mkF m 121 #[.val (.int p1), .val (.int p2), .val (.int p3), .val (.int (2 : Int32)), .val (.int (2 : Int32)), .val (.ref b674_1021), .val (.ref b674_1137), .val (.ref b267_404_1164), .val (.int (5 : Int32))] [(.int (1 : Int32)), (.ref b674_1137), (.ref b674_1021), (.ref b267_404_1164)])) rfl (by rw [hml]; rfl) (argsL := [(.ref b267_404_1164), (.ref b674_1021), (.ref b674_1137), (.int (1 : Int32))]) (rest := []) (lenOf pd_24 rfl) rfl (by show 2 * 0 + _ ≤ _; exact Nat.le_of_eq rfl) (hb hby at_121) (fun _ _ => ⟨rfl, eq1179, (by decide : 13 + 0 ≤ _), (by decide : 66 + 0 ≤ _)⟩)
      dsimp only [Pt.U, Pt.locs, Pt.cells, Pt.slots] at X1181 l1181 y1181 z1181 st1181 hQ1181
      subst l1181 y1181 z1181
      obtain ⟨rfl, N1181q, eq1181⟩ := hQ1181
      have N1182 := Fr.app N1180 N1181q
      refine GoH.step (fun _ k => st1181 _ (XS.ifNo X1181.here hx rfl (hb hby at_124) rfl ((if0 _ _).trans (feq (by decide)).1) (XS.aload X1181.here hx rfl (hb hby at_127) rfl rfl (XS.aload X1181.here hx rfl (hb hby at_129) rfl rfl (XS.aload X1181.here hx rfl (hb hby at_131) rfl rfl (XS.iconst X1181.here hx rfl (hb hby at_133) k)))))) ?_
      show GoH p e below s _ _ _ T1181 (mkF m 134 #[.val (.int p1), .val (.int p2), .val (.int p3), .val (.int (2 : Int32)), .val (.int (2 : Int32)), .val (.ref b674_1021), .val (.ref b674_1137), .val (.ref b267_404_1164), .val (.int (5 : Int32))] [(.int (2 : Int32)), (.ref b674_1137), (.ref b674_1021), (.ref b267_404_1164)])
      obtain ⟨_, _, ⟨T1183, L1183, k1183, n1183⟩, -, X1183, ⟨Lc1183, hQ1183, l1183, y1183, z1183⟩, st1183⟩ := Jvm.LawKit.callS X1181 hx (y := xm35) hown1164 (mvT hZ1164 (tw160 hw)) (mvT hZ1164 (tw161 hw)) (mvT hZ1164 (tw2 hw)) (mvT hZ1164 (tw162 hw)) (by decide) (backOf (W := 0) (rm_SubjectSetTypeToStringPinLaw_ok_0 l Z a0 hw [] b267_404_1164 b674_1021 b674_1137 (2 : Int32) b297_325_341_364_384_404_1164 k297_325_341_364_384_404_1164 (5 : Int32) ([(.int (nar .byte ((nar .char c0).toInt8.toInt32))), (.int (nar .byte ((nar .char c1).toInt8.toInt32))), (.int (35 : Int32)), (.int (nar .byte ((nar .char c2).toInt8.toInt32))), (.int (nar .byte ((nar .char c3).toInt8.toInt32)))]) cs b692_714_744_755_1021 k692_714_744_755_1021 (2 : Int32) ([(.int (nar .byte ((nar .char c0).toInt8.toInt32))), (.int (nar .byte ((nar .char c1).toInt8.toInt32)))]) fv (35 : Int32) T1164.heap n0 f1172 P1164_1 P1164_2 f1170 P1164_3 Z_S_COMPACT_STRINGS f1171 hcs (by decide) f1175 f1176 f1177 f1178 (by decide) (by decide) Z_S_SIOOBE_FORMATTER hfv rfl (by decide) (by decide) (by decide)) hZ1164 (tw162 hw) (tw2 hw) (by decide) (by decide)) (g := (mkF m 134 #[.val (.int p1), .val (.int p2), .val (.int p3), .val (.int (2 : Int32)), .val (.int (2 : Int32)), .val (.ref b674_1021), .val (.ref b674_1137), .val (.ref b267_404_1164), .val (.int (5 : Int32))] [(.int (2 : Int32)), (.ref b674_1137), (.ref b674_1021), (.ref b267_404_1164)])) rfl (by rw [hml]; rfl) (argsL := [(.ref b267_404_1164), (.ref b674_1021), (.ref b674_1137), (.int (2 : Int32))]) (rest := []) (lenOf pd_24 rfl) rfl (by show 2 * 0 + _ ≤ _; exact Nat.le_of_eq rfl) (hb hby at_134) (fun _ _ => ⟨rfl, eq1181, (by decide : 13 + 0 ≤ _), (by decide : 66 + 0 ≤ _)⟩)
      dsimp only [Pt.U, Pt.locs, Pt.cells, Pt.slots] at X1183 l1183 y1183 z1183 st1183 hQ1183
      subst l1183 y1183 z1183
      obtain ⟨rfl, N1183q, eq1183⟩ := hQ1183
      have N1184 := Fr.app N1182 N1183q
      refine GoH.step (fun _ k => st1183 _ (XS.ifNo X1183.here hx rfl (hb hby at_137) rfl ((if0 _ _).trans (feq (by decide)).1) (XS.aload X1183.here hx rfl (hb hby at_140) rfl rfl (XS.aload X1183.here hx rfl (hb hby at_142) rfl rfl (XS.aload X1183.here hx rfl (hb hby at_144) rfl rfl (XS.iconst X1183.here hx rfl (hb hby at_146) k)))))) ?_
      show GoH p e below s _ _ _ T1183 (mkF m 147 #[.val (.int p1), .val (.int p2), .val (.int p3), .val (.int (2 : Int32)), .val (.int (2 : Int32)), .val (.ref b674_1021), .val (.ref b674_1137), .val (.ref b267_404_1164), .val (.int (5 : Int32))] [(.int (3 : Int32)), (.ref b674_1137), (.ref b674_1021), (.ref b267_404_1164)])
      have f1185 := (f1158.keep K1164)
      have f1186 := (f1163.keep K1164 nin0)
      have f1187 := (f1160.keep K1164 nin0)
      have f1188 := (f1162.keep K1164 nin0)
      obtain ⟨_, _, ⟨T1189, L1189, k1189, n1189⟩, -, X1189, ⟨Lc1189, hQ1189, l1189, y1189, z1189⟩, st1189⟩ := Jvm.LawKit.callS X1183 hx (y := xm35) hown1164 (mvT hZ1164 (tw160 hw)) (mvT hZ1164 (tw161 hw)) (mvT hZ1164 (tw2 hw)) (mvT hZ1164 (tw162 hw)) (by decide) (backOf (W := 0) (rm_SubjectSetTypeToStringPinLaw_ok_2 l Z a0 hw [] b267_404_1164 b674_1021 b674_1137 (3 : Int32) b297_325_341_364_384_404_1164 k297_325_341_364_384_404_1164 (5 : Int32) ([(.int (nar .byte ((nar .char c0).toInt8.toInt32))), (.int (nar .byte ((nar .char c1).toInt8.toInt32))), (.int (35 : Int32)), (.int (nar .byte ((nar .char c2).toInt8.toInt32))), (.int (nar .byte ((nar .char c3).toInt8.toInt32)))]) cs b692_714_744_755_1021 k692_714_744_755_1021 (2 : Int32) ([(.int (nar .byte ((nar .char c0).toInt8.toInt32))), (.int (nar .byte ((nar .char c1).toInt8.toInt32)))]) b692_714_744_755_1137 k692_714_744_755_1137 (2 : Int32) ([(.int (nar .byte ((nar .char c2).toInt8.toInt32))), (.int (nar .byte ((nar .char c3).toInt8.toInt32)))]) (nar .byte ((nar .char c2).toInt8.toInt32)) fv (nar .byte ((nar .char c2).toInt8.toInt32)) T1164.heap n0 f1172 P1164_1 P1164_2 f1170 P1164_3 Z_S_COMPACT_STRINGS f1171 hcs (by decide) f1175 f1176 f1177 f1178 (by decide) (by decide) f1185 f1186 f1187 f1188 rfl Z_S_SIOOBE_FORMATTER hfv (by decide) (by decide) rfl (by decide) (by decide) rfl) hZ1164 (tw162 hw) (tw2 hw) (by decide) (by decide)) (g := (mkF m 147 #[.val (.int p1), .val (.int p2), .val (.int p3), .val (.int (2 : Int32)), .val (.int (2 : Int32)), .val (.ref b674_1021), .val (.ref b674_1137), .val (.ref b267_404_1164), .val (.int (5 : Int32))] [(.int (3 : Int32)), (.ref b674_1137), (.ref b674_1021), (.ref b267_404_1164)])) rfl (by rw [hml]; rfl) (argsL := [(.ref b267_404_1164), (.ref b674_1021), (.ref b674_1137), (.int (3 : Int32))]) (rest := []) (lenOf pd_24 rfl) rfl (by show 2 * 0 + _ ≤ _; exact Nat.le_of_eq rfl) (hb hby at_147) (fun _ _ => ⟨rfl, eq1183, (by decide : 13 + 0 ≤ _), (by decide : 66 + 0 ≤ _)⟩)
      dsimp only [Pt.U, Pt.locs, Pt.cells, Pt.slots] at X1189 l1189 y1189 z1189 st1189 hQ1189
      subst l1189 y1189 z1189
      obtain ⟨rfl, N1189q, eq1189⟩ := hQ1189
      have N1190 := Fr.app N1184 N1189q
      refine GoH.step (fun _ k => st1189 _ (XS.ifNo X1189.here hx rfl (hb hby at_150) rfl ((if0 _ _).trans (feq (by decide)).1) (XS.aload X1189.here hx rfl (hb hby at_153) rfl rfl (XS.aload X1189.here hx rfl (hb hby at_155) rfl rfl (XS.aload X1189.here hx rfl (hb hby at_157) rfl rfl (XS.iconst X1189.here hx rfl (hb hby at_159) k)))))) ?_
      show GoH p e below s _ _ _ T1189 (mkF m 160 #[.val (.int p1), .val (.int p2), .val (.int p3), .val (.int (2 : Int32)), .val (.int (2 : Int32)), .val (.ref b674_1021), .val (.ref b674_1137), .val (.ref b267_404_1164), .val (.int (5 : Int32))] [(.int (4 : Int32)), (.ref b674_1137), (.ref b674_1021), (.ref b267_404_1164)])
      obtain ⟨_, _, ⟨T1191, L1191, k1191, n1191⟩, -, X1191, ⟨Lc1191, hQ1191, l1191, y1191, z1191⟩, st1191⟩ := Jvm.LawKit.callS X1189 hx (y := xm35) hown1164 (mvT hZ1164 (tw160 hw)) (mvT hZ1164 (tw161 hw)) (mvT hZ1164 (tw2 hw)) (mvT hZ1164 (tw162 hw)) (by decide) (backOf (W := 0) (rm_SubjectSetTypeToStringPinLaw_ok_2 l Z a0 hw [] b267_404_1164 b674_1021 b674_1137 (4 : Int32) b297_325_341_364_384_404_1164 k297_325_341_364_384_404_1164 (5 : Int32) ([(.int (nar .byte ((nar .char c0).toInt8.toInt32))), (.int (nar .byte ((nar .char c1).toInt8.toInt32))), (.int (35 : Int32)), (.int (nar .byte ((nar .char c2).toInt8.toInt32))), (.int (nar .byte ((nar .char c3).toInt8.toInt32)))]) cs b692_714_744_755_1021 k692_714_744_755_1021 (2 : Int32) ([(.int (nar .byte ((nar .char c0).toInt8.toInt32))), (.int (nar .byte ((nar .char c1).toInt8.toInt32)))]) b692_714_744_755_1137 k692_714_744_755_1137 (2 : Int32) ([(.int (nar .byte ((nar .char c2).toInt8.toInt32))), (.int (nar .byte ((nar .char c3).toInt8.toInt32)))]) (nar .byte ((nar .char c3).toInt8.toInt32)) fv (nar .byte ((nar .char c3).toInt8.toInt32)) T1164.heap n0 f1172 P1164_1 P1164_2 f1170 P1164_3 Z_S_COMPACT_STRINGS f1171 hcs (by decide) f1175 f1176 f1177 f1178 (by decide) (by decide) f1185 f1186 f1187 f1188 rfl Z_S_SIOOBE_FORMATTER hfv (by decide) (by decide) rfl (by decide) (by decide) rfl) hZ1164 (tw162 hw) (tw2 hw) (by decide) (by decide)) (g := (mkF m 160 #[.val (.int p1), .val (.int p2), .val (.int p3), .val (.int (2 : Int32)), .val (.int (2 : Int32)), .val (.ref b674_1021), .val (.ref b674_1137), .val (.ref b267_404_1164), .val (.int (5 : Int32))] [(.int (4 : Int32)), (.ref b674_1137), (.ref b674_1021), (.ref b267_404_1164)])) rfl (by rw [hml]; rfl) (argsL := [(.ref b267_404_1164), (.ref b674_1021), (.ref b674_1137), (.int (4 : Int32))]) (rest := []) (lenOf pd_24 rfl) rfl (by show 2 * 0 + _ ≤ _; exact Nat.le_of_eq rfl) (hb hby at_160) (fun _ _ => ⟨rfl, eq1189, (by decide : 13 + 0 ≤ _), (by decide : 66 + 0 ≤ _)⟩)
      dsimp only [Pt.U, Pt.locs, Pt.cells, Pt.slots] at X1191 l1191 y1191 z1191 st1191 hQ1191
      subst l1191 y1191 z1191
      obtain ⟨rfl, N1191q, eq1191⟩ := hQ1191
      have N1192 := Fr.app N1190 N1191q
      refine GoH.step (fun _ k => st1191 _ (XS.ifNo X1191.here hx rfl (hb hby at_163) rfl ((if0 _ _).trans (feq (by decide)).1) (XS.iconst X1191.here hx rfl (hb hby at_166) (XS.goto X1191.here hx rfl (pc0 := 167) (pc' := 171) rfl (hb hby at_167) (by decide) (by decide) k)))) ?_
      show GoH p e below s _ _ _ T1191 (mkF m 171 #[.val (.int p1), .val (.int p2), .val (.int p3), .val (.int (2 : Int32)), .val (.int (2 : Int32)), .val (.ref b674_1021), .val (.ref b674_1137), .val (.ref b267_404_1164), .val (.int (5 : Int32))] [(.int (1 : Int32))])
      exact GoH.retN X1191 hS1164 hx hlk (t := .boolean) Bd.returns (by simp) (hb hby at_171) eq1191 (Nat.le_refl _) ⟨rfl, N1192⟩ (f1169.trans (CHv.at X1191 hZ1164 (own_EW hw) f1169.1)) (by decide) (by decide)

set_option maxRecDepth 65536 in
set_option maxHeartbeats 40000000 in
theorem comes_1 {Post : Tables → Env → Array Value → State → Outcome → State → Prop} (hpost : ∀ tb e args s v u, (limb_1_1.after args s (.returned v) u = true ∧ limb_1_2.after args s (.returned v) u = true ∧ True) → ReturnedEndW s (.returned v) u (Jvm.fieldLocs frame_1_writes args s ++ Jvm.arrayLocs frame_1_arrays args s ++ Jvm.staticLocs frame_1_statics s) 40 2240 → Post tb e args s (.returned v) u) :
    ArmFor flags0 classFile x code maxLocals ret World_1 tables_1 room_1 Calls_1 rest_1 Pre_1 Post := by
  intro l hfl _ _ p e ha hc hk s m args below hf hA hF happ hP
  obtain ⟨hcalls, hrest, hpre⟩ := hP
  obtain ⟨-, -, -, hnamed, -, -, -, hat⟩ := (Spec.applies_iff hf).mp happ
  obtain ⟨hg, hn⟩ := and_e (Cond.before_iff.mp (show (Jvm.Cond.and given_1 narrow_1).before args s = true from hpre))
  obtain ⟨gv1, gv2⟩ := and_e hg
  obtain ⟨gv3, gv4⟩ := and_e gv2
  obtain ⟨gv5, gv6⟩ := and_e gv4
  obtain ⟨w0, w1, w2, rfl⟩ : ∃ w0 w1 w2 : Value, args = #[w0, w1, w2] := by
    have hs : args.size = 3 := by simpa [Cond.value, given_1] using gv1
    obtain ⟨L⟩ := args
    match L, hs with
    | [w0, w1, w2], _ => exact ⟨w0, w1, w2, rfl⟩
  have hw := fun d (hd : d ∈ tables_1) => atoms_spec (ws := Jvm.Cond.code x code maxLocals ret :: tables_1) hat d (List.mem_cons_of_mem _ hd)
  have hfit : Fit s := fun {y c} hc i hi => by
    obtain ⟨ha, rfl⟩ := Array.getElem?_eq_some_iff.mp hc
    have q := List.all_eq_true.mp ((Array.all_eq_true_iff_forall_mem.mp hF) _ (Array.getElem_mem ha)) i (List.mem_range.mpr hi)
    simpa [Array.getElem?_eq_getElem hi] using q
  obtain ⟨i0, ei0⟩ := is_v gv3
  obtain rfl : w0 = (.int i0) := Option.some.inj ei0
  obtain ⟨i1, ei1⟩ := is_v gv5
  obtain rfl : w1 = (.int i1) := Option.some.inj ei1
  obtain ⟨i2, ei2⟩ := is_v gv6
  obtain rfl : w2 = (.int i2) := Option.some.inj ei2
  obtain ⟨hsets, hown0⟩ := atoms_of _ (rest_1_c_eq ▸ (show rest_1_c.before _ s = true from hrest))
  obtain ⟨cs, ecs⟩ := is_v (Cond.before_iff.mp (hsets _ (List.mem_of_getElem? (i := 1) rfl)))
  have Z_S_COMPACT_STRINGS := Sta.start ecs (Or.inl (hsets _ (List.mem_of_getElem? (i := 0) rfl)))
  have hcs : ¬ cs = (0 : Int32) := gotF (Cond.eq_ints ecs (Term.int_eval _)) (not_v (Cond.before_iff.mp (hsets _ (List.mem_of_getElem? (i := 2) rfl))))
  obtain ⟨fv, efv, hfv⟩ := isR_v (Cond.before_iff.mp (hsets _ (List.mem_of_getElem? (i := 8) rfl)))
  have Z_S_SIOOBE_FORMATTER := Sta.start efv (Or.inl (hsets _ (List.mem_of_getElem? (i := 7) rfl)))
  have hCH : CHv s consts_1 s.vm s.heap := CHv.start (own_EW hw) hcalls.1 (hsets _ (List.mem_of_getElem? (i := 2) rfl)) (tw19 hw) (tw5 hw)
  obtain ⟨n, o, h1, h2, h3, _, L, rfl, ⟨rfl, N⟩, -, hq⟩ := rm_law l s _ hw tables_1 i0 i1 i2 cs fv s.heap s.heap.size (Nat.le_refl _) (Old.start s) Z_S_COMPACT_STRINGS hcs Z_S_SIOOBE_FORMATTER hfv p e ha hc hk s m _ below hf ((Spec.applies_iff_loose hf).mp happ).1 ⟨rfl, State.Warmed39.refl s, rfl, hCH⟩ trivial
  refine ⟨n, _, h1, h2, h3, hpost _ _ _ _ _ _ ⟨Cond.after_iff.mpr rfl, Cond.after_iff.mpr (eq_i res_at (Term.int_eval (1)) rfl), trivial⟩ ⟨hq.1, hq.2.1, hq.2.2.1, (hq.2.2.2.sift fun y hy => Or.inr (N y hy)).mono (by decide) (by decide)⟩⟩
theorem main_1_1 : Claimed_1_1 := comes_1 fun _ _ _ _ _ _ h hF => ⟨h.1, hF⟩
theorem main_1_2 : Claimed_1_2 := comes_1 fun _ _ _ _ _ _ h hF => ⟨h.2.1, hF⟩
end Jvm.Pilot.@@N@@
namespace Jvm.Pilot.@@N@@
open Jvm Jvm.ClassFile Sem Op Lib Jvm.Free Jvm.Stand Jvm.Pilot.@@N@@.Jvm.D
/-! MADE BY PROGRAM (witnessworld.py) out of the Statement's table words and the real class files: 27 classes; the members and pool entries that the words name. The judged class is class 1, her method 1. -/
namespace start1
open Jvm.ClassFile
def u (s : String) : CpInfo := .utf8 (stringToUtf16 s)
/-- a pool by its gaps: so many unusable entries, then the entry; so many at the end -/
def gap : Nat → List CpInfo → List CpInfo
  | 0, r => r
  | n + 1, r => .unusable :: gap n r
def poolList (es : List (Nat × CpInfo)) (last : Nat) : List CpInfo := es.foldr (fun e r => gap e.1 (e.2 :: r)) (gap last [])
def pool (es : List (Nat × CpInfo)) (last : Nat) : Array CpInfo := ⟨poolList es last⟩
def fileOf (pool : Array CpInfo) (this : Nat) (attrs : Array Attribute := #[]) (ms : Array MethodInfo := #[]) (fl : Nat := 33) (sup : Nat := 0) (ifs : Array Nat := #[]) (fds : Array FieldInfo := #[]) : ClassFile where
  minorVersion := 0
  majorVersion := 65
  constantPool := pool
  accessFlags := fl
  thisClass := this
  superClass := sup
  interfaces := ifs
  fields := fds
  methods := ms
  attributes := attrs
def plain (name : String) (sup : Option ClassId) : Class where
  name := name
  kind := .ordinary
  loader := none
  accessFlags := 33
  super := sup
  interfaces := #[]
  cf := none
  fields := #[]
  methods := #[]
  instanceTypes := #[]
  staticTypes := #[]
  resolved := #[]
  callSites := []
  init := .initialized
  statics := none
  mirror := none

def pool0 : Array CpInfo := pool [(5, u "<init>"), (0, u "()V"), (1, .class_ 10), (1, u "java/lang/Object")] 113

def k0c0 : Code := { maxStack := 0, maxLocals := 1, code := object_method_1_code, exceptionTable := #[], attributes := #[] }
def k0m0 : Method := { name := "<init>", desc := "()V", sig := { parameters := [], returnType := none }, accessFlags := 1, code := some k0c0 }
/-- java/lang/Object -/
def k0 : Class := { plain "java/lang/Object" none with
  accessFlags := 33
  interfaces := #[]
  cf := some (fileOf pool0 8 #[] #[{ accessFlags := 1, nameIndex := 5, descriptorIndex := 6, attributes := #[] }] 33 0 #[] #[])
  fields := #[]
  methods := #[k0m0]
  instanceTypes := #[]
  staticTypes := #[]
  resolved := Array.replicate 124 none
  statics := none }

def pool1 : Array CpInfo := pool [(2, .class_ 4), (1, u "java/lang/Object"), (0, u "<init>"), (0, u "()V"), (0, .methodref 8 9), (0, .class_ 10), (0, .nameAndType 11 12), (0, u "com/example/grantgraph/grantgraph/model/SubjectSetTypeToStringPinLaw"), (0, u "mk"), (0, u "(ICC)Ljava/lang/String;"), (0, .class_ 14), (0, u "com/example/grantgraph/grantgraph/model/SubjectSetType"), (0, .methodref 13 16), (0, .nameAndType 5 17), (0, u "(Ljava/lang/String;Ljava/lang/String;)V"), (0, .methodref 13 19), (0, .nameAndType 20 21), (0, u "toString"), (0, u "()Ljava/lang/String;"), (0, .methodref 23 24), (0, .class_ 25), (0, .nameAndType 26 27), (0, u "java/lang/String"), (0, u "length"), (0, u "()I"), (0, .methodref 8 29), (0, .nameAndType 30 31), (0, u "ok"), (0, u "(Ljava/lang/String;Ljava/lang/String;Ljava/lang/String;I)Z"), (0, .methodref 23 33), (0, .nameAndType 5 34), (0, u "([C)V"), (0, .methodref 23 36), (0, .nameAndType 37 38), (0, u "charAt"), (0, u "(I)C"), (2, u "law"), (0, u "(III)Z")] 3

def k1m0 : Method := { name := "<init>", desc := "()V", sig := { parameters := [], returnType := none }, accessFlags := 1, code := none }
def k1c1 : Code := { maxStack := 4, maxLocals := 9, code := code, exceptionTable := #[], attributes := #[] }
def k1m1 : Method := { name := "law", desc := "(III)Z", sig := { parameters := [.int, .int, .int], returnType := some .boolean }, accessFlags := 9, code := some k1c1 }
def k1c2 : Code := { maxStack := 6, maxLocals := 3, code := method_3_code, exceptionTable := #[], attributes := #[] }
def k1m2 : Method := { name := "mk", desc := "(ICC)Ljava/lang/String;", sig := { parameters := [.int, .char, .char], returnType := some (.object "java/lang/String") }, accessFlags := 10, code := some k1c2 }
def k1c3 : Code := { maxStack := 3, maxLocals := 5, code := method_4_code, exceptionTable := #[], attributes := #[] }
def k1m3 : Method := { name := "ok", desc := "(Ljava/lang/String;Ljava/lang/String;Ljava/lang/String;I)Z", sig := { parameters := [(.object "java/lang/String"), (.object "java/lang/String"), (.object "java/lang/String"), .int], returnType := some .boolean }, accessFlags := 10, code := some k1c3 }
/-- com/example/grantgraph/grantgraph/model/SubjectSetTypeToStringPinLaw -/
def k1 : Class := { plain "com/example/grantgraph/grantgraph/model/SubjectSetTypeToStringPinLaw" (some 0) with
  accessFlags := 49
  interfaces := #[]
  cf := some (fileOf pool1 8 #[] #[{ accessFlags := 1, nameIndex := 5, descriptorIndex := 6, attributes := #[] }, { accessFlags := 9, nameIndex := 41, descriptorIndex := 42, attributes := #[] }, { accessFlags := 10, nameIndex := 11, descriptorIndex := 12, attributes := #[] }, { accessFlags := 10, nameIndex := 30, descriptorIndex := 31, attributes := #[] }] 49 2 #[] #[])
  fields := #[]
  methods := #[k1m0, k1m1, k1m2, k1m3]
  instanceTypes := #[]
  staticTypes := #[]
  resolved := Array.replicate 46 none
  statics := none }

def pool2 : Array CpInfo := pool [(1, .class_ 2), (0, u "java/io/Serializable"), (0, .class_ 4), (0, u "java/lang/Object")] 2

/-- java/io/Serializable -/
def k2 : Class := { plain "java/io/Serializable" (some 0) with
  accessFlags := 1537
  interfaces := #[]
  cf := some (fileOf pool2 1 #[] #[] 1537 3 #[] #[])
  fields := #[]
  methods := #[]
  instanceTypes := #[]
  staticTypes := #[]
  resolved := Array.replicate 7 none
  statics := none }

def pool3 : Array CpInfo := pool [(1, .class_ 2), (0, u "java/lang/Comparable"), (0, .class_ 4), (0, u "java/lang/Object")] 7

/-- java/lang/Comparable -/
def k3 : Class := { plain "java/lang/Comparable" (some 0) with
  accessFlags := 1537
  interfaces := #[]
  cf := some (fileOf pool3 1 #[] #[] 1537 3 #[] #[])
  fields := #[]
  methods := #[]
  instanceTypes := #[]
  staticTypes := #[]
  resolved := Array.replicate 12 none
  statics := none }

def pool4 : Array CpInfo := pool [(2, .class_ 4), (1, u "java/lang/CharSequence"), (42, .class_ 48), (0, u "java/lang/CharSequence$1CodePointIterator"), (10, .class_ 60), (0, u "java/lang/CharSequence$1CharIterator"), (5, .class_ 67), (0, u "java/lang/Object")] 63

/-- java/lang/CharSequence -/
def k4 : Class := { plain "java/lang/CharSequence" (some 0) with
  accessFlags := 1537
  interfaces := #[]
  cf := some (fileOf pool4 2 #[.nestMembers #[47, 59]] #[] 1537 66 #[] #[])
  fields := #[]
  methods := #[]
  instanceTypes := #[]
  staticTypes := #[]
  resolved := Array.replicate 131 none
  statics := none }

def pool5 : Array CpInfo := pool [(1, .class_ 2), (0, u "java/lang/constant/Constable"), (0, .class_ 4), (0, u "java/lang/Object")] 6

/-- java/lang/constant/Constable -/
def k5 : Class := { plain "java/lang/constant/Constable" (some 0) with
  accessFlags := 1537
  interfaces := #[]
  cf := some (fileOf pool5 1 #[] #[] 1537 3 #[] #[])
  fields := #[]
  methods := #[]
  instanceTypes := #[]
  staticTypes := #[]
  resolved := Array.replicate 11 none
  statics := none }

def pool6 : Array CpInfo := pool [(1, .class_ 2), (0, u "java/lang/constant/ConstantDesc"), (0, .class_ 4), (0, u "java/lang/Object")] 32

/-- java/lang/constant/ConstantDesc -/
def k6 : Class := { plain "java/lang/constant/ConstantDesc" (some 0) with
  accessFlags := 1537
  interfaces := #[]
  cf := some (fileOf pool6 1 #[] #[] 1537 3 #[] #[])
  fields := #[]
  methods := #[]
  instanceTypes := #[]
  staticTypes := #[]
  resolved := Array.replicate 37 none
  statics := none }

def pool7 : Array CpInfo := pool [(1, .methodref 2 3), (0, .class_ 4), (0, .nameAndType 5 6), (0, u "java/lang/Object"), (0, u "<init>"), (0, u "()V"), (0, .string 8), (0, u ""), (0, .fieldref 10 11), (0, .class_ 12), (0, .nameAndType 13 14), (0, u "java/lang/String"), (0, u "value"), (0, u "[B"), (0, .fieldref 10 16), (0, .nameAndType 17 18), (0, u "coder"), (0, u "B"), (2, u "hash"), (0, u "I"), (2, u "hashIsZero"), (0, u "Z"), (0, .methodref 10 28), (0, .nameAndType 5 29), (0, u "([CIILjava/lang/Void;)V"), (8, .fieldref 10 39), (0, .nameAndType 40 26), (0, u "COMPACT_STRINGS"), (1, .class_ 44), (1, u "java/lang/StringUTF16"), (0, u "compress"), (1, .methodref 42 48), (0, .nameAndType 49 50), (0, u "coderFromArrayLen"), (0, u "([BI)B"), (3, .methodref 55 56), (0, .class_ 57), (0, .nameAndType 58 59), (0, u "java/util/Arrays"), (0, u "copyOfRange"), (0, u "([BII)[B"), (47, .class_ 109), (1, u "java/lang/StringLatin1"), (32, u "()Z"), (34, .methodref 42 178), (0, .nameAndType 45 179), (0, u "([CII)[B"), (13, .class_ 195), (1, u "java/lang/System"), (16, .methodref 193 213), (0, .nameAndType 214 215), (0, u "arraycopy"), (0, u "(Ljava/lang/Object;ILjava/lang/Object;II)V"), (118, u "()I"), (0, .methodref 10 336), (0, .nameAndType 17 337), (0, u "()B"), (2, u "()[B"), (22, u "([BI)C"), (27, u "(II)V"), (35, u "(I)C"), (61, .methodref 10 490), (0, .nameAndType 5 491), (0, u "(Ljava/lang/AbstractStringBuilder;Ljava/lang/Void;)V"), (0, .methodref 10 493), (0, .nameAndType 494 142), (0, u "isLatin1"), (0, .methodref 107 496), (0, .nameAndType 497 363), (0, u "charAt"), (3, u "checkIndex"), (4, .nameAndType 507 334), (0, u "length"), (24, u "getBytes"), (16, .methodref 550 506), (0, .class_ 551), (0, u "java/lang/AbstractStringBuilder"), (0, .methodref 550 553), (0, .nameAndType 554 340), (0, u "getValue"), (20, .class_ 576), (0, u "java/lang/CharSequence"), (22, u "CASE_INSENSITIVE_ORDER"), (0, u "Ljava/util/Comparator;"), (220, u "([BIB)V"), (188, u "([C)V"), (36, .methodref 550 493), (5, .fieldref 1054 1055), (0, .class_ 1056), (0, .nameAndType 1057 1058), (0, u "jdk/internal/util/Preconditions"), (0, u "SIOOBE_FORMATTER"), (0, u "Ljava/util/function/BiFunction;"), (0, .methodref 1054 1060), (0, .nameAndType 501 1061), (0, u "(IILjava/util/function/BiFunction;)I"), (39, u "serialPersistentFields"), (0, u "[Ljava/io/ObjectStreamField;"), (0, .class_ 1104), (0, u "java/lang/String$CaseInsensitiveComparator"), (1, .class_ 1107), (0, u "java/io/Serializable"), (0, .class_ 1109), (0, u "java/lang/Comparable"), (0, .class_ 1111), (0, u "java/lang/constant/Constable"), (0, .class_ 1113), (0, u "java/lang/constant/ConstantDesc"), (2, u "serialVersionUID"), (0, u "J"), (3, u "REPL"), (0, u "C"), (2, u "LATIN1"), (1, u "UTF16"), (105, u "(Ljava/lang/StringBuilder;)V")] 217

def k7m0 : Method := { name := "<init>", desc := "()V", sig := { parameters := [], returnType := none }, accessFlags := 1, code := none }
def k7c1 : Code := { maxStack := 5, maxLocals := 2, code := jdk_42_method_3_code, exceptionTable := #[], attributes := #[] }
def k7m1 : Method := { name := "<init>", desc := "([C)V", sig := { parameters := [(.array .char)], returnType := none }, accessFlags := 1, code := some k7c1 }
def k7c2 : Code := { maxStack := 3, maxLocals := 2, code := jdk_42_method_53_code, exceptionTable := #[], attributes := #[] }
def k7m2 : Method := { name := "<init>", desc := "(Ljava/lang/StringBuilder;)V", sig := { parameters := [(.object "java/lang/StringBuilder")], returnType := none }, accessFlags := 1, code := some k7c2 }
def k7c3 : Code := { maxStack := 2, maxLocals := 1, code := jdk_42_method_54_code, exceptionTable := #[], attributes := #[] }
def k7m3 : Method := { name := "length", desc := "()I", sig := { parameters := [], returnType := some .int }, accessFlags := 1, code := some k7c3 }
def k7c4 : Code := { maxStack := 2, maxLocals := 2, code := jdk_42_method_56_code, exceptionTable := #[], attributes := #[] }
def k7m4 : Method := { name := "charAt", desc := "(I)C", sig := { parameters := [.int], returnType := some .char }, accessFlags := 1, code := some k7c4 }
def k7c5 : Code := { maxStack := 5, maxLocals := 4, code := jdk_42_method_147_code, exceptionTable := #[], attributes := #[] }
def k7m5 : Method := { name := "getBytes", desc := "([BIB)V", sig := { parameters := [(.array .byte), .int, .byte], returnType := none }, accessFlags := 0, code := some k7c5 }
def k7c6 : Code := { maxStack := 4, maxLocals := 6, code := jdk_42_method_149_code, exceptionTable := #[], attributes := #[] }
def k7m6 : Method := { name := "<init>", desc := "([CIILjava/lang/Void;)V", sig := { parameters := [(.array .char), .int, .int, (.object "java/lang/Void")], returnType := none }, accessFlags := 2, code := some k7c6 }
def k7c7 : Code := { maxStack := 5, maxLocals := 5, code := jdk_42_method_150_code, exceptionTable := #[], attributes := #[] }
def k7m7 : Method := { name := "<init>", desc := "(Ljava/lang/AbstractStringBuilder;Ljava/lang/Void;)V", sig := { parameters := [(.object "java/lang/AbstractStringBuilder"), (.object "java/lang/Void")], returnType := none }, accessFlags := 0, code := some k7c7 }
def k7c8 : Code := { maxStack := 1, maxLocals := 1, code := jdk_42_method_152_code, exceptionTable := #[], attributes := #[] }
def k7m8 : Method := { name := "coder", desc := "()B", sig := { parameters := [], returnType := some .byte }, accessFlags := 0, code := some k7c8 }
def k7c9 : Code := { maxStack := 1, maxLocals := 1, code := jdk_42_method_154_code, exceptionTable := #[], attributes := #[] }
def k7m9 : Method := { name := "isLatin1", desc := "()Z", sig := { parameters := [], returnType := some .boolean }, accessFlags := 0, code := some k7c9 }
def k7c10 : Code := { maxStack := 3, maxLocals := 2, code := jdk_42_method_155_code, exceptionTable := #[], attributes := #[] }
def k7m10 : Method := { name := "checkIndex", desc := "(II)V", sig := { parameters := [.int, .int], returnType := none }, accessFlags := 8, code := some k7c10 }
/-- java/lang/String -/
def k7 : Class := { plain "java/lang/String" (some 0) with
  accessFlags := 49
  interfaces := #[2, 3, 4, 5, 6]
  cf := some (fileOf pool7 10 #[.nestMembers #[1103]] #[{ accessFlags := 1, nameIndex := 5, descriptorIndex := 6, attributes := #[] }, { accessFlags := 1, nameIndex := 5, descriptorIndex := 1010, attributes := #[] }, { accessFlags := 1, nameIndex := 5, descriptorIndex := 1233, attributes := #[] }, { accessFlags := 1, nameIndex := 507, descriptorIndex := 334, attributes := #[] }, { accessFlags := 1, nameIndex := 497, descriptorIndex := 427, attributes := #[] }, { accessFlags := 0, nameIndex := 532, descriptorIndex := 821, attributes := #[] }, { accessFlags := 2, nameIndex := 5, descriptorIndex := 29, attributes := #[] }, { accessFlags := 0, nameIndex := 5, descriptorIndex := 491, attributes := #[] }, { accessFlags := 0, nameIndex := 17, descriptorIndex := 337, attributes := #[] }, { accessFlags := 0, nameIndex := 494, descriptorIndex := 142, attributes := #[] }, { accessFlags := 8, nameIndex := 501, descriptorIndex := 391, attributes := #[] }] 49 2 #[1106, 1108, 575, 1110, 1112] #[{ accessFlags := 18, nameIndex := 13, descriptorIndex := 14, attributes := #[] }, { accessFlags := 18, nameIndex := 17, descriptorIndex := 18, attributes := #[] }, { accessFlags := 2, nameIndex := 21, descriptorIndex := 22, attributes := #[] }, { accessFlags := 2, nameIndex := 25, descriptorIndex := 26, attributes := #[] }, { accessFlags := 26, nameIndex := 1116, descriptorIndex := 1117, attributes := #[] }, { accessFlags := 24, nameIndex := 40, descriptorIndex := 26, attributes := #[] }, { accessFlags := 26, nameIndex := 1101, descriptorIndex := 1102, attributes := #[] }, { accessFlags := 26, nameIndex := 1121, descriptorIndex := 1122, attributes := #[] }, { accessFlags := 25, nameIndex := 599, descriptorIndex := 600, attributes := #[] }, { accessFlags := 24, nameIndex := 1125, descriptorIndex := 18, attributes := #[] }, { accessFlags := 24, nameIndex := 1127, descriptorIndex := 18, attributes := #[] }])
  fields := #[{ name := "value", type := (.array .byte), accessFlags := 18, slot := 0, constantValue := 0 }, { name := "coder", type := .byte, accessFlags := 18, slot := 1, constantValue := 0 }, { name := "hash", type := .int, accessFlags := 2, slot := 2, constantValue := 0 }, { name := "hashIsZero", type := .boolean, accessFlags := 2, slot := 3, constantValue := 0 }, { name := "serialVersionUID", type := .long, accessFlags := 26, slot := 0, constantValue := 0 }, { name := "COMPACT_STRINGS", type := .boolean, accessFlags := 24, slot := 1, constantValue := 0 }, { name := "serialPersistentFields", type := (.array (.object "java/io/ObjectStreamField")), accessFlags := 26, slot := 2, constantValue := 0 }, { name := "REPL", type := .char, accessFlags := 26, slot := 3, constantValue := 0 }, { name := "CASE_INSENSITIVE_ORDER", type := (.object "java/util/Comparator"), accessFlags := 25, slot := 4, constantValue := 0 }, { name := "LATIN1", type := .byte, accessFlags := 24, slot := 5, constantValue := 0 }, { name := "UTF16", type := .byte, accessFlags := 24, slot := 6, constantValue := 0 }]
  methods := #[k7m0, k7m1, k7m2, k7m3, k7m4, k7m5, k7m6, k7m7, k7m8, k7m9, k7m10]
  instanceTypes := #[(.array .byte), .byte, .int, .boolean]
  staticTypes := #[.long, .boolean, (.array (.object "java/io/ObjectStreamField")), .char, (.object "java/util/Comparator"), .byte, .byte]
  resolved := Array.replicate 1451 none
  statics := some 0 }

def pool8 : Array CpInfo := pool [(1, .methodref 2 3), (0, .class_ 4), (0, .nameAndType 5 6), (0, u "java/lang/Object"), (0, u "<init>"), (0, u "()V"), (0, .class_ 8), (0, u "java/lang/Record")] 13

def k8c0 : Code := { maxStack := 1, maxLocals := 1, code := jdk_30_method_1_code, exceptionTable := #[], attributes := #[] }
def k8m0 : Method := { name := "<init>", desc := "()V", sig := { parameters := [], returnType := none }, accessFlags := 4, code := some k8c0 }
/-- java/lang/Record -/
def k8 : Class := { plain "java/lang/Record" (some 0) with
  accessFlags := 1057
  interfaces := #[]
  cf := some (fileOf pool8 7 #[] #[{ accessFlags := 4, nameIndex := 5, descriptorIndex := 6, attributes := #[] }] 1057 2 #[] #[])
  fields := #[]
  methods := #[k8m0]
  instanceTypes := #[]
  staticTypes := #[]
  resolved := Array.replicate 22 none
  statics := none }

def pool9 : Array CpInfo := pool [(1, .methodref 2 3), (0, .class_ 4), (0, .nameAndType 5 6), (0, u "java/lang/Record"), (0, u "<init>"), (0, u "()V"), (0, .fieldref 8 9), (0, .class_ 10), (0, .nameAndType 11 12), (0, u "com/example/grantgraph/grantgraph/model/SubjectSetType"), (0, u "type"), (0, u "Ljava/lang/String;"), (0, .fieldref 8 14), (0, .nameAndType 15 12), (0, u "relation"), (0, .class_ 17), (0, u "java/lang/StringBuilder"), (0, .methodref 16 3), (0, .methodref 16 20), (0, .nameAndType 21 22), (0, u "append"), (0, u "(Ljava/lang/String;)Ljava/lang/StringBuilder;"), (0, .string 24), (0, u "#"), (0, .methodref 16 26), (0, .nameAndType 27 28), (0, u "toString"), (0, u "()Ljava/lang/String;"), (8, u "(Ljava/lang/String;Ljava/lang/String;)V")] 26

def k9c0 : Code := { maxStack := 2, maxLocals := 3, code := prog_31_method_1_code, exceptionTable := #[], attributes := #[] }
def k9m0 : Method := { name := "<init>", desc := "(Ljava/lang/String;Ljava/lang/String;)V", sig := { parameters := [(.object "java/lang/String"), (.object "java/lang/String")], returnType := none }, accessFlags := 1, code := some k9c0 }
def k9c1 : Code := { maxStack := 2, maxLocals := 1, code := prog_31_method_2_code, exceptionTable := #[], attributes := #[] }
def k9m1 : Method := { name := "toString", desc := "()Ljava/lang/String;", sig := { parameters := [], returnType := some (.object "java/lang/String") }, accessFlags := 1, code := some k9c1 }
/-- com/example/grantgraph/grantgraph/model/SubjectSetType -/
def k9 : Class := { plain "com/example/grantgraph/grantgraph/model/SubjectSetType" (some 8) with
  accessFlags := 49
  interfaces := #[]
  cf := some (fileOf pool9 8 #[] #[{ accessFlags := 1, nameIndex := 5, descriptorIndex := 37, attributes := #[] }, { accessFlags := 1, nameIndex := 27, descriptorIndex := 28, attributes := #[] }] 49 2 #[] #[{ accessFlags := 18, nameIndex := 11, descriptorIndex := 12, attributes := #[] }, { accessFlags := 18, nameIndex := 15, descriptorIndex := 12, attributes := #[] }])
  fields := #[{ name := "type", type := (.object "java/lang/String"), accessFlags := 18, slot := 0, constantValue := 0 }, { name := "relation", type := (.object "java/lang/String"), accessFlags := 18, slot := 1, constantValue := 0 }]
  methods := #[k9m0, k9m1]
  instanceTypes := #[(.object "java/lang/String"), (.object "java/lang/String")]
  staticTypes := #[]
  resolved := Array.replicate 64 none
  statics := none }

def pool10 : Array CpInfo := pool [(1, .class_ 2), (0, u "java/lang/Appendable"), (0, .class_ 4), (0, u "java/lang/Object")] 9

/-- java/lang/Appendable -/
def k10 : Class := { plain "java/lang/Appendable" (some 0) with
  accessFlags := 1537
  interfaces := #[]
  cf := some (fileOf pool10 1 #[] #[] 1537 3 #[] #[])
  fields := #[]
  methods := #[]
  instanceTypes := #[]
  staticTypes := #[]
  resolved := Array.replicate 14 none
  statics := none }

def pool11 : Array CpInfo := pool [(1, .class_ 2), (0, u "java/lang/String"), (0, .methodref 4 5), (0, .class_ 6), (0, .nameAndType 7 8), (0, u "java/lang/Object"), (0, u "<init>"), (0, u "()V"), (1, .class_ 12), (1, u "java/lang/AbstractStringBuilder"), (0, u "EMPTYVALUE"), (0, u "[B"), (0, .fieldref 10 16), (0, .nameAndType 17 14), (0, u "value"), (0, .fieldref 1 19), (0, .nameAndType 20 21), (0, u "COMPACT_STRINGS"), (0, u "Z"), (0, .fieldref 10 23), (0, .nameAndType 24 25), (0, u "coder"), (0, u "B"), (6, .methodref 1 33), (0, .nameAndType 34 35), (0, u "length"), (0, u "()I"), (4, .methodref 1 41), (0, .nameAndType 24 42), (0, u "()B"), (2, u "append"), (0, u "(Ljava/lang/String;)Ljava/lang/AbstractStringBuilder;"), (1, .class_ 49), (0, u "java/lang/CharSequence"), (19, u "(Ljava/lang/String;)V"), (5, u "maybeLatin1"), (3, .fieldref 10 80), (0, .nameAndType 81 82), (0, u "count"), (0, u "I"), (2, u "isLatin1"), (0, u "()Z"), (13, .methodref 10 101), (0, .nameAndType 102 103), (0, u "ensureCapacityInternal"), (0, u "(I)V"), (104, .methodref 10 209), (0, .nameAndType 210 211), (0, u "putStringAt"), (0, u "(ILjava/lang/String;)V"), (5, u "inflateIfNeededFor"), (2, .nameAndType 221 222), (0, u "getBytes"), (0, u "([BIB)V"), (174, .methodref 10 398), (0, .nameAndType 217 69), (0, .methodref 1 220), (3, u "()[B"), (40, .class_ 445), (0, u "java/lang/Appendable"), (106, u "getValue")] 56

def k11m0 : Method := { name := "<init>", desc := "()V", sig := { parameters := [], returnType := none }, accessFlags := 0, code := none }
def k11c1 : Code := { maxStack := 2, maxLocals := 2, code := jdk_68_method_2_code, exceptionTable := #[], attributes := #[] }
def k11m1 : Method := { name := "<init>", desc := "(I)V", sig := { parameters := [.int], returnType := none }, accessFlags := 0, code := some k11c1 }
def k11c2 : Code := { maxStack := 1, maxLocals := 1, code := jdk_68_method_6_code, exceptionTable := #[], attributes := #[] }
def k11m2 : Method := { name := "length", desc := "()I", sig := { parameters := [], returnType := some .int }, accessFlags := 1, code := some k11c2 }
def k11c3 : Code := { maxStack := 4, maxLocals := 3, code := jdk_68_method_9_code, exceptionTable := #[], attributes := #[] }
def k11m3 : Method := { name := "ensureCapacityInternal", desc := "(I)V", sig := { parameters := [.int], returnType := none }, accessFlags := 2, code := some k11c3 }
def k11c4 : Code := { maxStack := 3, maxLocals := 3, code := jdk_68_method_22_code, exceptionTable := #[], attributes := #[] }
def k11m4 : Method := { name := "append", desc := "(Ljava/lang/String;)Ljava/lang/AbstractStringBuilder;", sig := { parameters := [(.object "java/lang/String")], returnType := some (.object "java/lang/AbstractStringBuilder") }, accessFlags := 1, code := some k11c4 }
def k11c5 : Code := { maxStack := 1, maxLocals := 1, code := jdk_68_method_64_code, exceptionTable := #[], attributes := #[] }
def k11m5 : Method := { name := "getValue", desc := "()[B", sig := { parameters := [], returnType := some (.array .byte) }, accessFlags := 16, code := some k11c5 }
def k11c6 : Code := { maxStack := 1, maxLocals := 1, code := jdk_68_method_68_code, exceptionTable := #[], attributes := #[] }
def k11m6 : Method := { name := "isLatin1", desc := "()Z", sig := { parameters := [], returnType := some .boolean }, accessFlags := 16, code := some k11c6 }
def k11c7 : Code := { maxStack := 2, maxLocals := 2, code := jdk_68_method_71_code, exceptionTable := #[], attributes := #[] }
def k11m7 : Method := { name := "inflateIfNeededFor", desc := "(Ljava/lang/String;)V", sig := { parameters := [(.object "java/lang/String")], returnType := none }, accessFlags := 2, code := some k11c7 }
def k11c8 : Code := { maxStack := 4, maxLocals := 3, code := jdk_68_method_73_code, exceptionTable := #[], attributes := #[] }
def k11m8 : Method := { name := "putStringAt", desc := "(ILjava/lang/String;)V", sig := { parameters := [.int, (.object "java/lang/String")], returnType := none }, accessFlags := 2, code := some k11c8 }
/-- java/lang/AbstractStringBuilder -/
def k11 : Class := { plain "java/lang/AbstractStringBuilder" (some 0) with
  accessFlags := 1056
  interfaces := #[10, 4]
  cf := some (fileOf pool11 10 #[] #[{ accessFlags := 0, nameIndex := 7, descriptorIndex := 8, attributes := #[] }, { accessFlags := 0, nameIndex := 7, descriptorIndex := 103, attributes := #[] }, { accessFlags := 1, nameIndex := 34, descriptorIndex := 35, attributes := #[] }, { accessFlags := 2, nameIndex := 102, descriptorIndex := 103, attributes := #[] }, { accessFlags := 1, nameIndex := 45, descriptorIndex := 46, attributes := #[] }, { accessFlags := 16, nameIndex := 552, descriptorIndex := 403, attributes := #[] }, { accessFlags := 16, nameIndex := 85, descriptorIndex := 86, attributes := #[] }, { accessFlags := 2, nameIndex := 217, descriptorIndex := 69, attributes := #[] }, { accessFlags := 2, nameIndex := 210, descriptorIndex := 211, attributes := #[] }] 1056 4 #[444, 48] #[{ accessFlags := 0, nameIndex := 17, descriptorIndex := 14, attributes := #[] }, { accessFlags := 0, nameIndex := 24, descriptorIndex := 25, attributes := #[] }, { accessFlags := 0, nameIndex := 75, descriptorIndex := 21, attributes := #[] }, { accessFlags := 0, nameIndex := 81, descriptorIndex := 82, attributes := #[] }, { accessFlags := 26, nameIndex := 13, descriptorIndex := 14, attributes := #[] }])
  fields := #[{ name := "value", type := (.array .byte), accessFlags := 0, slot := 0, constantValue := 0 }, { name := "coder", type := .byte, accessFlags := 0, slot := 1, constantValue := 0 }, { name := "maybeLatin1", type := .boolean, accessFlags := 0, slot := 2, constantValue := 0 }, { name := "count", type := .int, accessFlags := 0, slot := 3, constantValue := 0 }, { name := "EMPTYVALUE", type := (.array .byte), accessFlags := 26, slot := 0, constantValue := 0 }]
  methods := #[k11m0, k11m1, k11m2, k11m3, k11m4, k11m5, k11m6, k11m7, k11m8]
  instanceTypes := #[(.array .byte), .byte, .boolean, .int]
  staticTypes := #[(.array .byte)]
  resolved := Array.replicate 609 none
  statics := none }

def pool12 : Array CpInfo := pool [(1, .methodref 2 3), (0, .class_ 4), (0, .nameAndType 5 6), (0, u "java/lang/AbstractStringBuilder"), (0, u "<init>"), (0, u "(I)V"), (11, .class_ 20), (1, u "java/lang/String"), (3, .class_ 26), (1, u "java/lang/StringBuilder"), (0, u "append"), (0, u "(Ljava/lang/String;)Ljava/lang/StringBuilder;"), (0, .methodref 2 30), (0, .nameAndType 27 31), (0, u "(Ljava/lang/String;)Ljava/lang/AbstractStringBuilder;"), (105, .methodref 18 138), (0, .nameAndType 5 139), (0, u "(Ljava/lang/StringBuilder;)V"), (5, u "()V"), (10, u "()I"), (186, .methodref 2 344), (0, .nameAndType 345 156), (0, u "length"), (3, .class_ 350), (0, u "java/lang/Appendable"), (0, .class_ 352), (0, u "java/io/Serializable"), (0, .class_ 354), (0, u "java/lang/Comparable"), (0, .class_ 356), (0, u "java/lang/CharSequence"), (0, u "serialVersionUID"), (0, u "J"), (40, u "toString"), (0, u "()Ljava/lang/String;")] 21

def k12c0 : Code := { maxStack := 2, maxLocals := 1, code := jdk_67_method_1_code, exceptionTable := #[], attributes := #[] }
def k12m0 : Method := { name := "<init>", desc := "()V", sig := { parameters := [], returnType := none }, accessFlags := 1, code := some k12c0 }
def k12c1 : Code := { maxStack := 2, maxLocals := 2, code := jdk_67_method_7_code, exceptionTable := #[], attributes := #[] }
def k12m1 : Method := { name := "append", desc := "(Ljava/lang/String;)Ljava/lang/StringBuilder;", sig := { parameters := [(.object "java/lang/String")], returnType := some (.object "java/lang/StringBuilder") }, accessFlags := 1, code := some k12c1 }
def k12c2 : Code := { maxStack := 3, maxLocals := 1, code := jdk_67_method_42_code, exceptionTable := #[], attributes := #[] }
def k12m2 : Method := { name := "toString", desc := "()Ljava/lang/String;", sig := { parameters := [], returnType := some (.object "java/lang/String") }, accessFlags := 1, code := some k12c2 }
def k12c3 : Code := { maxStack := 1, maxLocals := 1, code := jdk_67_method_93_code, exceptionTable := #[], attributes := #[] }
def k12m3 : Method := { name := "length", desc := "()I", sig := { parameters := [], returnType := some .int }, accessFlags := 4161, code := some k12c3 }
/-- java/lang/StringBuilder -/
def k12 : Class := { plain "java/lang/StringBuilder" (some 11) with
  accessFlags := 49
  interfaces := #[10, 2, 3, 4]
  cf := some (fileOf pool12 24 #[] #[{ accessFlags := 1, nameIndex := 5, descriptorIndex := 145, attributes := #[] }, { accessFlags := 1, nameIndex := 27, descriptorIndex := 28, attributes := #[] }, { accessFlags := 1, nameIndex := 399, descriptorIndex := 400, attributes := #[] }, { accessFlags := 4161, nameIndex := 345, descriptorIndex := 156, attributes := #[] }] 49 2 #[349, 351, 353, 355] #[{ accessFlags := 24, nameIndex := 357, descriptorIndex := 358, attributes := #[] }])
  fields := #[{ name := "serialVersionUID", type := .long, accessFlags := 24, slot := 0, constantValue := 0 }]
  methods := #[k12m0, k12m1, k12m2, k12m3]
  instanceTypes := #[(.array .byte), .byte, .boolean, .int]
  staticTypes := #[.long]
  resolved := Array.replicate 422 none
  statics := none }

def pool13 : Array CpInfo := pool [(2, .class_ 4), (1, u "java/lang/Object"), (0, u "<init>"), (0, u "()V"), (1, .class_ 10), (1, u "java/lang/System"), (0, u "allowSecurityManager"), (0, u "I"), (16, u "cons"), (0, u "Ljava/io/Console;"), (77, .class_ 110), (1, u "java/lang/System$CallersHolder"), (43, u "initialErrStream"), (0, u "Ljava/io/PrintStream;"), (19, u "security"), (0, u "Ljava/lang/SecurityManager;"), (31, .class_ 209), (0, u "java/lang/System$1"), (7, u "props"), (0, u "Ljava/util/Properties;"), (2, u "lineSeparator"), (0, u "Ljava/lang/String;"), (96, .class_ 321), (1, u "java/lang/System$LoggerFinder"), (5, .class_ 328), (0, u "java/lang/System$Logger"), (67, u "err"), (2, u "out"), (91, u "notSupportedJnuEncoding"), (15, u "in"), (17, u "initialIn"), (0, u "Ljava/io/InputStream;"), (35, u "bootLayer"), (0, u "Ljava/lang/ModuleLayer;"), (99, .class_ 664), (0, u "java/lang/System$2"), (9, u "NEVER"), (2, u "MAYBE"), (49, u "arraycopy"), (0, u "(Ljava/lang/Object;ILjava/lang/Object;II)V"), (72, .class_ 802), (0, u "java/lang/System$Logger$Level")] 31

def k13m0 : Method := { name := "<init>", desc := "()V", sig := { parameters := [], returnType := none }, accessFlags := 2, code := none }
def k13m1 : Method := { name := "arraycopy", desc := "(Ljava/lang/Object;ILjava/lang/Object;II)V", sig := { parameters := [(.object "java/lang/Object"), .int, (.object "java/lang/Object"), .int, .int], returnType := none }, accessFlags := 265, code := none }
/-- java/lang/System -/
def k13 : Class := { plain "java/lang/System" (some 0) with
  accessFlags := 49
  interfaces := #[]
  cf := some (fileOf pool13 8 #[.nestMembers #[319, 327, 801, 108, 663, 208]] #[{ accessFlags := 2, nameIndex := 5, descriptorIndex := 6, attributes := #[] }, { accessFlags := 265, nameIndex := 727, descriptorIndex := 728, attributes := #[] }] 49 2 #[] #[{ accessFlags := 25, nameIndex := 507, descriptorIndex := 526, attributes := #[] }, { accessFlags := 25, nameIndex := 399, descriptorIndex := 155, attributes := #[] }, { accessFlags := 25, nameIndex := 396, descriptorIndex := 155, attributes := #[] }, { accessFlags := 10, nameIndex := 525, descriptorIndex := 526, attributes := #[] }, { accessFlags := 26, nameIndex := 674, descriptorIndex := 12, attributes := #[] }, { accessFlags := 26, nameIndex := 677, descriptorIndex := 12, attributes := #[] }, { accessFlags := 10, nameIndex := 11, descriptorIndex := 12, attributes := #[] }, { accessFlags := 74, nameIndex := 175, descriptorIndex := 176, attributes := #[] }, { accessFlags := 10, nameIndex := 491, descriptorIndex := 222, attributes := #[] }, { accessFlags := 74, nameIndex := 29, descriptorIndex := 30, attributes := #[] }, { accessFlags := 74, nameIndex := 154, descriptorIndex := 155, attributes := #[] }, { accessFlags := 10, nameIndex := 217, descriptorIndex := 218, attributes := #[] }, { accessFlags := 10, nameIndex := 221, descriptorIndex := 222, attributes := #[] }, { accessFlags := 8, nameIndex := 562, descriptorIndex := 563, attributes := #[] }])
  fields := #[{ name := "in", type := (.object "java/io/InputStream"), accessFlags := 25, slot := 0, constantValue := 0 }, { name := "out", type := (.object "java/io/PrintStream"), accessFlags := 25, slot := 1, constantValue := 0 }, { name := "err", type := (.object "java/io/PrintStream"), accessFlags := 25, slot := 2, constantValue := 0 }, { name := "initialIn", type := (.object "java/io/InputStream"), accessFlags := 10, slot := 3, constantValue := 0 }, { name := "NEVER", type := .int, accessFlags := 26, slot := 4, constantValue := 0 }, { name := "MAYBE", type := .int, accessFlags := 26, slot := 5, constantValue := 0 }, { name := "allowSecurityManager", type := .int, accessFlags := 10, slot := 6, constantValue := 0 }, { name := "security", type := (.object "java/lang/SecurityManager"), accessFlags := 74, slot := 7, constantValue := 0 }, { name := "notSupportedJnuEncoding", type := (.object "java/lang/String"), accessFlags := 10, slot := 8, constantValue := 0 }, { name := "cons", type := (.object "java/io/Console"), accessFlags := 74, slot := 9, constantValue := 0 }, { name := "initialErrStream", type := (.object "java/io/PrintStream"), accessFlags := 74, slot := 10, constantValue := 0 }, { name := "props", type := (.object "java/util/Properties"), accessFlags := 10, slot := 11, constantValue := 0 }, { name := "lineSeparator", type := (.object "java/lang/String"), accessFlags := 10, slot := 12, constantValue := 0 }, { name := "bootLayer", type := (.object "java/lang/ModuleLayer"), accessFlags := 8, slot := 13, constantValue := 0 }]
  methods := #[k13m0, k13m1]
  instanceTypes := #[]
  staticTypes := #[(.object "java/io/InputStream"), (.object "java/io/PrintStream"), (.object "java/io/PrintStream"), (.object "java/io/InputStream"), .int, .int, .int, (.object "java/lang/SecurityManager"), (.object "java/lang/String"), (.object "java/io/Console"), (.object "java/io/PrintStream"), (.object "java/util/Properties"), (.object "java/lang/String"), (.object "java/lang/ModuleLayer")]
  resolved := Array.replicate 834 none
  statics := none }

def pool14 : Array CpInfo := pool [(2, .class_ 4), (1, u "java/lang/Object"), (0, u "<init>"), (0, u "()V"), (7, .class_ 16), (1, u "java/util/Arrays"), (57, .class_ 76), (1, u "java/util/Arrays$NaturalOrder"), (36, .class_ 115), (1, u "java/util/Arrays$LegacyMergeSort"), (1, u "Z"), (21, u "copyOfRange"), (10, .methodref 151 152), (0, .class_ 153), (0, .nameAndType 154 155), (0, u "java/lang/System"), (0, u "arraycopy"), (0, u "(Ljava/lang/Object;ILjava/lang/Object;II)V"), (148, .methodref 305 306), (0, .class_ 307), (0, .nameAndType 308 309), (0, u "java/lang/Math"), (0, u "min"), (0, u "(II)I"), (29, .methodref 14 340), (0, .nameAndType 341 342), (0, u "copyOfRangeByte"), (0, u "([BII)[B"), (0, .methodref 14 344), (0, .nameAndType 345 346), (0, u "checkLength"), (0, u "(II)V"), (28, .class_ 376), (0, u "java/util/Arrays$ArrayList"), (68, u "$assertionsDisabled"), (269, u "MIN_ARRAY_SORT_GRAN"), (0, u "I"), (2, u "INSERTIONSORT_THRESHOLD"), (255, .class_ 976), (0, u "java/util/Arrays$ArrayItr")] 52

def k14m0 : Method := { name := "<init>", desc := "()V", sig := { parameters := [], returnType := none }, accessFlags := 2, code := none }
def k14c1 : Code := { maxStack := 4, maxLocals := 2, code := jdk_65_method_131_code, exceptionTable := #[], attributes := #[] }
def k14m1 : Method := { name := "checkLength", desc := "(II)V", sig := { parameters := [.int, .int], returnType := none }, accessFlags := 10, code := some k14c1 }
def k14c2 : Code := { maxStack := 3, maxLocals := 3, code := jdk_65_method_132_code, exceptionTable := #[], attributes := #[] }
def k14m2 : Method := { name := "copyOfRange", desc := "([BII)[B", sig := { parameters := [(.array .byte), .int, .int], returnType := some (.array .byte) }, accessFlags := 9, code := some k14c2 }
def k14c3 : Code := { maxStack := 6, maxLocals := 5, code := jdk_65_method_133_code, exceptionTable := #[], attributes := #[] }
def k14m3 : Method := { name := "copyOfRangeByte", desc := "([BII)[B", sig := { parameters := [(.array .byte), .int, .int], returnType := some (.array .byte) }, accessFlags := 10, code := some k14c3 }
/-- java/util/Arrays -/
def k14 : Class := { plain "java/util/Arrays" (some 0) with
  accessFlags := 49
  interfaces := #[]
  cf := some (fileOf pool14 14 #[.nestMembers #[975, 375, 113, 74]] #[{ accessFlags := 2, nameIndex := 5, descriptorIndex := 6, attributes := #[] }, { accessFlags := 10, nameIndex := 345, descriptorIndex := 346, attributes := #[] }, { accessFlags := 9, nameIndex := 139, descriptorIndex := 342, attributes := #[] }, { accessFlags := 10, nameIndex := 341, descriptorIndex := 342, attributes := #[] }] 49 2 #[] #[{ accessFlags := 26, nameIndex := 715, descriptorIndex := 716, attributes := #[] }, { accessFlags := 26, nameIndex := 719, descriptorIndex := 716, attributes := #[] }, { accessFlags := 4120, nameIndex := 445, descriptorIndex := 117, attributes := #[] }])
  fields := #[{ name := "MIN_ARRAY_SORT_GRAN", type := .int, accessFlags := 26, slot := 0, constantValue := 0 }, { name := "INSERTIONSORT_THRESHOLD", type := .int, accessFlags := 26, slot := 1, constantValue := 0 }, { name := "$assertionsDisabled", type := .boolean, accessFlags := 4120, slot := 2, constantValue := 0 }]
  methods := #[k14m0, k14m1, k14m2, k14m3]
  instanceTypes := #[]
  staticTypes := #[.int, .int, .boolean]
  resolved := Array.replicate 1029 none
  statics := none }

def pool15 : Array CpInfo := pool [(1, .class_ 2), (0, u "java/lang/Math"), (1, .class_ 6), (1, u "java/lang/Object"), (0, u "<init>"), (0, u "()V"), (89, .class_ 100), (1, u "java/lang/Math$RandomNumberGeneratorHolder"), (71, u "negativeZeroFloatBits"), (0, u "J"), (2, u "negativeZeroDoubleBits"), (24, u "min"), (43, u "$assertionsDisabled"), (0, u "Z"), (88, u "(II)I"), (2, u "twoToTheDoubleScaleDown"), (0, u "D"), (4, u "twoToTheDoubleScaleUp"), (9, u "E"), (3, u "PI"), (2, u "TAU"), (2, u "DEGREES_TO_RADIANS"), (0, u "RADIANS_TO_DEGREES")] 94

def k15m0 : Method := { name := "<init>", desc := "()V", sig := { parameters := [], returnType := none }, accessFlags := 2, code := none }
def k15c1 : Code := { maxStack := 2, maxLocals := 2, code := jdk_29_method_69_code, exceptionTable := #[], attributes := #[] }
def k15m1 : Method := { name := "min", desc := "(II)I", sig := { parameters := [.int, .int], returnType := some .int }, accessFlags := 9, code := some k15c1 }
/-- java/lang/Math -/
def k15 : Class := { plain "java/lang/Math" (some 0) with
  accessFlags := 49
  interfaces := #[]
  cf := some (fileOf pool15 1 #[.nestMembers #[98]] #[{ accessFlags := 2, nameIndex := 7, descriptorIndex := 8, attributes := #[] }, { accessFlags := 9, nameIndex := 201, descriptorIndex := 335, attributes := #[] }] 49 4 #[] #[{ accessFlags := 25, nameIndex := 354, descriptorIndex := 339, attributes := #[] }, { accessFlags := 25, nameIndex := 358, descriptorIndex := 339, attributes := #[] }, { accessFlags := 25, nameIndex := 361, descriptorIndex := 339, attributes := #[] }, { accessFlags := 26, nameIndex := 364, descriptorIndex := 339, attributes := #[] }, { accessFlags := 26, nameIndex := 365, descriptorIndex := 339, attributes := #[] }, { accessFlags := 26, nameIndex := 172, descriptorIndex := 173, attributes := #[] }, { accessFlags := 26, nameIndex := 176, descriptorIndex := 173, attributes := #[] }, { accessFlags := 8, nameIndex := 344, descriptorIndex := 339, attributes := #[] }, { accessFlags := 8, nameIndex := 338, descriptorIndex := 339, attributes := #[] }, { accessFlags := 4120, nameIndex := 245, descriptorIndex := 246, attributes := #[] }])
  fields := #[{ name := "E", type := .double, accessFlags := 25, slot := 0, constantValue := 0 }, { name := "PI", type := .double, accessFlags := 25, slot := 1, constantValue := 0 }, { name := "TAU", type := .double, accessFlags := 25, slot := 2, constantValue := 0 }, { name := "DEGREES_TO_RADIANS", type := .double, accessFlags := 26, slot := 3, constantValue := 0 }, { name := "RADIANS_TO_DEGREES", type := .double, accessFlags := 26, slot := 4, constantValue := 0 }, { name := "negativeZeroFloatBits", type := .long, accessFlags := 26, slot := 5, constantValue := 0 }, { name := "negativeZeroDoubleBits", type := .long, accessFlags := 26, slot := 6, constantValue := 0 }, { name := "twoToTheDoubleScaleUp", type := .double, accessFlags := 8, slot := 7, constantValue := 0 }, { name := "twoToTheDoubleScaleDown", type := .double, accessFlags := 8, slot := 8, constantValue := 0 }, { name := "$assertionsDisabled", type := .boolean, accessFlags := 4120, slot := 9, constantValue := 0 }]
  methods := #[k15m0, k15m1]
  instanceTypes := #[]
  staticTypes := #[.double, .double, .double, .double, .double, .long, .long, .double, .double, .boolean]
  resolved := Array.replicate 460 none
  statics := none }

def pool16 : Array CpInfo := pool [(1, .class_ 2), (0, u "java/lang/String"), (1, .class_ 6), (1, u "java/lang/Object"), (0, u "<init>"), (0, u "()V"), (0, .methodref 1 10), (0, .nameAndType 11 12), (0, u "checkIndex"), (0, u "(II)V"), (1, .class_ 16), (1, u "java/lang/StringLatin1"), (36, u "([BI)C"), (67, u "$assertionsDisabled"), (0, u "Z"), (98, .class_ 223), (1, u "java/lang/StringLatin1$LinesSpliterator"), (28, u "charAt"), (137, .class_ 391), (0, u "java/lang/StringLatin1$CharsSpliterator")] 3

def k16m0 : Method := { name := "<init>", desc := "()V", sig := { parameters := [], returnType := none }, accessFlags := 0, code := none }
def k16c1 : Code := { maxStack := 2, maxLocals := 2, code := jdk_43_method_2_code, exceptionTable := #[], attributes := #[] }
def k16m1 : Method := { name := "charAt", desc := "([BI)C", sig := { parameters := [(.array .byte), .int], returnType := some .char }, accessFlags := 9, code := some k16c1 }
/-- java/lang/StringLatin1 -/
def k16 : Class := { plain "java/lang/StringLatin1" (some 0) with
  accessFlags := 48
  interfaces := #[]
  cf := some (fileOf pool16 14 #[.nestMembers #[390, 221]] #[{ accessFlags := 0, nameIndex := 7, descriptorIndex := 8, attributes := #[] }, { accessFlags := 9, nameIndex := 252, descriptorIndex := 53, attributes := #[] }] 48 4 #[] #[{ accessFlags := 4120, nameIndex := 121, descriptorIndex := 122, attributes := #[] }])
  fields := #[{ name := "$assertionsDisabled", type := .boolean, accessFlags := 4120, slot := 0, constantValue := 0 }]
  methods := #[k16m0, k16m1]
  instanceTypes := #[]
  staticTypes := #[.boolean]
  resolved := Array.replicate 395 none
  statics := none }

def pool17 : Array CpInfo := pool [(2, .class_ 4), (1, u "java/lang/Object"), (0, u "<init>"), (0, u "()V"), (17, .class_ 26), (1, u "jdk/internal/util/Preconditions"), (6, u "checkIndex"), (21, .class_ 56), (0, u "jdk/internal/util/Preconditions$4"), (57, .class_ 115), (0, u "jdk/internal/util/Preconditions$1"), (7, u "SIOOBE_FORMATTER"), (0, u "Ljava/util/function/BiFunction;"), (0, .class_ 126), (0, u "jdk/internal/util/Preconditions$2"), (3, u "AIOOBE_FORMATTER"), (0, .class_ 132), (0, u "jdk/internal/util/Preconditions$3"), (3, u "IOOBE_FORMATTER"), (41, u "(IILjava/util/function/BiFunction;)I")] 15

def k17m0 : Method := { name := "<init>", desc := "()V", sig := { parameters := [], returnType := none }, accessFlags := 1, code := none }
def k17c1 : Code := { maxStack := 3, maxLocals := 3, code := jdk_41_method_11_code, exceptionTable := #[], attributes := #[] }
def k17m1 : Method := { name := "checkIndex", desc := "(IILjava/util/function/BiFunction;)I", sig := { parameters := [.int, .int, (.object "java/util/function/BiFunction")], returnType := some .int }, accessFlags := 9, code := some k17c1 }
/-- jdk/internal/util/Preconditions -/
def k17 : Class := { plain "jdk/internal/util/Preconditions" (some 0) with
  accessFlags := 33
  interfaces := #[]
  cf := some (fileOf pool17 24 #[.nestMembers #[55, 131, 125, 114]] #[{ accessFlags := 1, nameIndex := 5, descriptorIndex := 6, attributes := #[] }, { accessFlags := 9, nameIndex := 33, descriptorIndex := 178, attributes := #[] }] 33 2 #[] #[{ accessFlags := 25, nameIndex := 123, descriptorIndex := 124, attributes := #[] }, { accessFlags := 25, nameIndex := 130, descriptorIndex := 124, attributes := #[] }, { accessFlags := 25, nameIndex := 136, descriptorIndex := 124, attributes := #[] }])
  fields := #[{ name := "SIOOBE_FORMATTER", type := (.object "java/util/function/BiFunction"), accessFlags := 25, slot := 0, constantValue := 0 }, { name := "AIOOBE_FORMATTER", type := (.object "java/util/function/BiFunction"), accessFlags := 25, slot := 1, constantValue := 0 }, { name := "IOOBE_FORMATTER", type := (.object "java/util/function/BiFunction"), accessFlags := 25, slot := 2, constantValue := 0 }]
  methods := #[k17m0, k17m1]
  instanceTypes := #[]
  staticTypes := #[(.object "java/util/function/BiFunction"), (.object "java/util/function/BiFunction"), (.object "java/util/function/BiFunction")]
  resolved := Array.replicate 194 none
  statics := some 1 }

def pool18 : Array CpInfo := pool [(6, .class_ 8), (1, u "java/lang/Object"), (0, u "<init>"), (0, u "()V"), (1, .class_ 14), (1, u "java/lang/StringUTF16"), (31, u "$assertionsDisabled"), (0, u "Z"), (13, u "HI_BYTE_SHIFT"), (0, u "I"), (2, u "LO_BYTE_SHIFT"), (49, .methodref 12 116), (0, .nameAndType 117 118), (0, u "compress"), (0, u "([CI[BII)I"), (3, u "([CII)[B"), (138, u "coderFromArrayLen"), (0, u "([BI)B"), (106, .class_ 371), (1, u "java/lang/StringUTF16$LinesSpliterator"), (58, u "MAX_LENGTH"), (196, .class_ 628), (0, u "java/lang/StringUTF16$CodePointsSpliterator"), (0, .class_ 630), (0, u "java/lang/StringUTF16$CharsSpliterator")] 4

def k18m0 : Method := { name := "<init>", desc := "()V", sig := { parameters := [], returnType := none }, accessFlags := 0, code := none }
def k18c1 : Code := { maxStack := 2, maxLocals := 2, code := jdk_52_method_15_code, exceptionTable := #[], attributes := #[] }
def k18m1 : Method := { name := "coderFromArrayLen", desc := "([BI)B", sig := { parameters := [(.array .byte), .int], returnType := some .byte }, accessFlags := 8, code := some k18c1 }
def k18c2 : Code := { maxStack := 5, maxLocals := 6, code := jdk_52_method_16_code, exceptionTable := #[], attributes := #[] }
def k18m2 : Method := { name := "compress", desc := "([CII)[B", sig := { parameters := [(.array .char), .int, .int], returnType := some (.array .byte) }, accessFlags := 9, code := some k18c2 }
def k18c3 : Code := { maxStack := 3, maxLocals := 7, code := jdk_52_method_21_code, exceptionTable := #[], attributes := #[] }
def k18m3 : Method := { name := "compress", desc := "([CI[BII)I", sig := { parameters := [(.array .char), .int, (.array .byte), .int, .int], returnType := some .int }, accessFlags := 9, code := some k18c3 }
/-- java/lang/StringUTF16 -/
def k18 : Class := { plain "java/lang/StringUTF16" (some 0) with
  accessFlags := 48
  interfaces := #[]
  cf := some (fileOf pool18 12 #[.nestMembers #[627, 629, 369]] #[{ accessFlags := 0, nameIndex := 9, descriptorIndex := 10, attributes := #[] }, { accessFlags := 8, nameIndex := 261, descriptorIndex := 262, attributes := #[] }, { accessFlags := 9, nameIndex := 117, descriptorIndex := 122, attributes := #[] }, { accessFlags := 9, nameIndex := 117, descriptorIndex := 118, attributes := #[] }] 48 6 #[] #[{ accessFlags := 26, nameIndex := 61, descriptorIndex := 62, attributes := #[] }, { accessFlags := 26, nameIndex := 65, descriptorIndex := 62, attributes := #[] }, { accessFlags := 24, nameIndex := 430, descriptorIndex := 62, attributes := #[] }, { accessFlags := 4120, nameIndex := 46, descriptorIndex := 47, attributes := #[] }])
  fields := #[{ name := "HI_BYTE_SHIFT", type := .int, accessFlags := 26, slot := 0, constantValue := 0 }, { name := "LO_BYTE_SHIFT", type := .int, accessFlags := 26, slot := 1, constantValue := 0 }, { name := "MAX_LENGTH", type := .int, accessFlags := 24, slot := 2, constantValue := 0 }, { name := "$assertionsDisabled", type := .boolean, accessFlags := 4120, slot := 3, constantValue := 0 }]
  methods := #[k18m0, k18m1, k18m2, k18m3]
  instanceTypes := #[]
  staticTypes := #[.int, .int, .int, .boolean]
  resolved := Array.replicate 635 none
  statics := none }

def pool19 : Array CpInfo := pool [(9, u "<init>"), (6, .class_ 18), (1, u "java/lang/Object"), (0, u "()V"), (1, .class_ 23), (1, u "jdk/internal/util/ArraysSupport"), (0, u "LOG2_ARRAY_LONG_INDEX_SCALE"), (0, u "I"), (2, u "U"), (0, u "Ljdk/internal/misc/Unsafe;"), (8, u "BIG_ENDIAN"), (0, u "Z"), (8, u "LOG2_BYTE_BIT_SIZE"), (4, u "LOG2_ARRAY_INT_INDEX_SCALE"), (54, u "JLA"), (0, u "Ljdk/internal/access/JavaLangAccess;"), (11, u "LOG2_ARRAY_BOOLEAN_INDEX_SCALE"), (9, u "LOG2_ARRAY_BYTE_INDEX_SCALE"), (5, u "LOG2_ARRAY_CHAR_INDEX_SCALE"), (5, u "LOG2_ARRAY_SHORT_INDEX_SCALE"), (18, u "LOG2_ARRAY_FLOAT_INDEX_SCALE"), (24, u "LOG2_ARRAY_DOUBLE_INDEX_SCALE"), (89, u "T_BOOLEAN"), (2, u "T_CHAR"), (1, u "T_FLOAT"), (1, u "T_DOUBLE"), (1, u "T_BYTE"), (1, u "T_SHORT"), (1, u "T_INT"), (1, u "T_LONG"), (1, u "SOFT_MAX_ARRAY_LENGTH")] 83

def k19m0 : Method := { name := "<init>", desc := "()V", sig := { parameters := [], returnType := none }, accessFlags := 2, code := none }
/-- jdk/internal/util/ArraysSupport -/
def k19 : Class := { plain "jdk/internal/util/ArraysSupport" (some 0) with
  accessFlags := 33
  interfaces := #[]
  cf := some (fileOf pool19 21 #[] #[{ accessFlags := 2, nameIndex := 9, descriptorIndex := 19, attributes := #[] }] 33 16 #[] #[{ accessFlags := 24, nameIndex := 28, descriptorIndex := 29, attributes := #[] }, { accessFlags := 26, nameIndex := 38, descriptorIndex := 39, attributes := #[] }, { accessFlags := 25, nameIndex := 121, descriptorIndex := 25, attributes := #[] }, { accessFlags := 25, nameIndex := 131, descriptorIndex := 25, attributes := #[] }, { accessFlags := 25, nameIndex := 137, descriptorIndex := 25, attributes := #[] }, { accessFlags := 25, nameIndex := 143, descriptorIndex := 25, attributes := #[] }, { accessFlags := 25, nameIndex := 53, descriptorIndex := 25, attributes := #[] }, { accessFlags := 25, nameIndex := 24, descriptorIndex := 25, attributes := #[] }, { accessFlags := 25, nameIndex := 162, descriptorIndex := 25, attributes := #[] }, { accessFlags := 25, nameIndex := 187, descriptorIndex := 25, attributes := #[] }, { accessFlags := 26, nameIndex := 48, descriptorIndex := 25, attributes := #[] }, { accessFlags := 25, nameIndex := 277, descriptorIndex := 25, attributes := #[] }, { accessFlags := 25, nameIndex := 280, descriptorIndex := 25, attributes := #[] }, { accessFlags := 25, nameIndex := 282, descriptorIndex := 25, attributes := #[] }, { accessFlags := 25, nameIndex := 284, descriptorIndex := 25, attributes := #[] }, { accessFlags := 25, nameIndex := 286, descriptorIndex := 25, attributes := #[] }, { accessFlags := 25, nameIndex := 288, descriptorIndex := 25, attributes := #[] }, { accessFlags := 25, nameIndex := 290, descriptorIndex := 25, attributes := #[] }, { accessFlags := 25, nameIndex := 292, descriptorIndex := 25, attributes := #[] }, { accessFlags := 26, nameIndex := 108, descriptorIndex := 109, attributes := #[] }, { accessFlags := 25, nameIndex := 294, descriptorIndex := 25, attributes := #[] }])
  fields := #[{ name := "U", type := (.object "jdk/internal/misc/Unsafe"), accessFlags := 24, slot := 0, constantValue := 0 }, { name := "BIG_ENDIAN", type := .boolean, accessFlags := 26, slot := 1, constantValue := 0 }, { name := "LOG2_ARRAY_BOOLEAN_INDEX_SCALE", type := .int, accessFlags := 25, slot := 2, constantValue := 0 }, { name := "LOG2_ARRAY_BYTE_INDEX_SCALE", type := .int, accessFlags := 25, slot := 3, constantValue := 0 }, { name := "LOG2_ARRAY_CHAR_INDEX_SCALE", type := .int, accessFlags := 25, slot := 4, constantValue := 0 }, { name := "LOG2_ARRAY_SHORT_INDEX_SCALE", type := .int, accessFlags := 25, slot := 5, constantValue := 0 }, { name := "LOG2_ARRAY_INT_INDEX_SCALE", type := .int, accessFlags := 25, slot := 6, constantValue := 0 }, { name := "LOG2_ARRAY_LONG_INDEX_SCALE", type := .int, accessFlags := 25, slot := 7, constantValue := 0 }, { name := "LOG2_ARRAY_FLOAT_INDEX_SCALE", type := .int, accessFlags := 25, slot := 8, constantValue := 0 }, { name := "LOG2_ARRAY_DOUBLE_INDEX_SCALE", type := .int, accessFlags := 25, slot := 9, constantValue := 0 }, { name := "LOG2_BYTE_BIT_SIZE", type := .int, accessFlags := 26, slot := 10, constantValue := 0 }, { name := "T_BOOLEAN", type := .int, accessFlags := 25, slot := 11, constantValue := 0 }, { name := "T_CHAR", type := .int, accessFlags := 25, slot := 12, constantValue := 0 }, { name := "T_FLOAT", type := .int, accessFlags := 25, slot := 13, constantValue := 0 }, { name := "T_DOUBLE", type := .int, accessFlags := 25, slot := 14, constantValue := 0 }, { name := "T_BYTE", type := .int, accessFlags := 25, slot := 15, constantValue := 0 }, { name := "T_SHORT", type := .int, accessFlags := 25, slot := 16, constantValue := 0 }, { name := "T_INT", type := .int, accessFlags := 25, slot := 17, constantValue := 0 }, { name := "T_LONG", type := .int, accessFlags := 25, slot := 18, constantValue := 0 }, { name := "JLA", type := (.object "jdk/internal/access/JavaLangAccess"), accessFlags := 26, slot := 19, constantValue := 0 }, { name := "SOFT_MAX_ARRAY_LENGTH", type := .int, accessFlags := 25, slot := 20, constantValue := 0 }]
  methods := #[k19m0]
  instanceTypes := #[]
  staticTypes := #[(.object "jdk/internal/misc/Unsafe"), .boolean, .int, .int, .int, .int, .int, .int, .int, .int, .int, .int, .int, .int, .int, .int, .int, .int, .int, (.object "jdk/internal/access/JavaLangAccess"), .int]
  resolved := Array.replicate 378 none
  statics := none }

def pool20 : Array CpInfo := pool [(1, u "java/lang/Cloneable"), (0, .class_ 1), (0, u "java/lang/Object"), (0, .class_ 3)] 3

/-- java/lang/Cloneable -/
def k20 : Class := { plain "java/lang/Cloneable" (some 0) with
  accessFlags := 1537
  interfaces := #[]
  cf := some (fileOf pool20 2 #[] #[] 1537 4 #[] #[])
  fields := #[]
  methods := #[]
  instanceTypes := #[]
  staticTypes := #[]
  resolved := Array.replicate 8 none
  statics := none }

/-- the primitive byte -/
def k21 : Class := { plain "byte" none with kind := .primitive 'B', accessFlags := 0x411 }
/-- [B -/
def k22 : Class := { plain "[B" (some 0) with kind := .array 21 .byte, interfaces := #[20, 2], accessFlags := 1041 }

/-- the primitive char -/
def k23 : Class := { plain "char" none with kind := .primitive 'C', accessFlags := 0x411 }
/-- [C -/
def k24 : Class := { plain "[C" (some 0) with kind := .array 23 .char, interfaces := #[20, 2], accessFlags := 1041 }

/-- the primitive int -/
def k25 : Class := { plain "int" none with kind := .primitive 'I', accessFlags := 0x411 }
/-- [I -/
def k26 : Class := { plain "[I" (some 0) with kind := .array 25 .int, interfaces := #[20, 2], accessFlags := 1041 }

def heap : Heap := #[{ cls := 7, slots := #[.long 0, .int 1, .null, .int 0, .null, .int 0, .int 0], vm := .statics 7 },
  { cls := 17, slots := #[.null, .null, .null], vm := .statics 17 }]
def classes : Array Class := #[k0, k1, k2, k3, k4, k5, k6, k7, k8, k9, k10, k11, k12, k13, k14, k15, k16, k17, k18, k19, k20, k21, k22, k23, k24, k25, k26]
def interned : List (Array UInt16 × Addr) := []
def slotsUsed : Nat := 10
def theMethod : MethodId := ⟨1, 1⟩
def args0 : Array Value := #[.int 5, .int 100, .int 70]
def aboutOver (below : List Frame) : State where
  vm := { classes := classes, interned := interned.toArray }
  heap := heap
  slotsUsed := slotsUsed
  threads := #[{ frames := .invoking theMethod args0 :: below }]
def below0 : List Frame := [.native { method := ⟨0, 0⟩, args := #[] }]
def about1 : State := aboutOver below0
def p0 : Program := .bare "" "" ""
def e0 : Env := launch0.env 0 0 0
theorem w_frames : about1.frames = Frame.invoking theMethod args0 :: below0 := rfl
set_option maxRecDepth 65536 in
theorem w_args : argsFit about1.vm theMethod args0 = true := by decide +kernel
set_option maxRecDepth 65536 in
theorem w_heap : heapFits about1 = true := by decide +kernel
set_option maxRecDepth 65536 in
theorem w_runnable : about1.curStatus? = some .runnable := by decide +kernel
set_option maxRecDepth 65536 in
theorem w_alone : about1.alone = true := by decide +kernel
set_option maxRecDepth 65536 in
theorem w_named : about1.methodNamed? x = some theMethod := by decide +kernel
set_option maxRecDepth 65536 in
theorem w_hears : about1.hears theMethod below0 = true := by decide +kernel
set_option maxRecDepth 65536 in
theorem w_ripe : about1.ripe theMethod args0 below0 = true := by decide +kernel
theorem w_running : about1.status = .running := rfl
set_option maxRecDepth 65536 in
theorem w_room : about1.hasRoom e0.platform room_1 = true :=
  launch0.hasRoom_least _ room_1 (by decide +kernel) (by decide +kernel) (by decide +kernel) (by decide +kernel) (by decide +kernel) (by decide +kernel)
theorem allAtoms_all (ts : List Jvm.Cond) (a : Array Jvm.Value) (st : Jvm.State) : (allAtoms ts).before a st = ts.all (fun c => c.before a st) := by
  induction ts with
  | nil => rfl
  | cons c t ih =>
    show (Jvm.Cond.and c (allAtoms t)).before a st = _
    rw [Jvm.Cond.before_and, ih, List.all_cons]
def words1 : List Jvm.Cond := Jvm.Cond.code x code maxLocals ret :: tables_1
/-- a 'code' word, met by the world's own term for the bytes: nothing is compared byte by byte -/
theorem code_word {y : MethodName} {bytes : ByteArray} {mx : Nat} {rt : Option FieldType} {a : Array Value} {s : State} {m : MethodId} {meth : Method} {c : Code} (h1 : s.methodNamed? y = some m) (h2 : s.vm.method? m = some meth) (h3 : meth.code = some c) (h4 : c.code = bytes)
    (h5 : (c.maxLocals == mx && c.exceptionTable.isEmpty && decide (c.maxStack ≤ mostOperands) && decide (meth.sig.returnType = rt) && !meth.locks && decide (parseMethodDescriptor y.desc = some meth.sig)) = true) : (Jvm.Cond.code y bytes mx rt).before a s = true := by
  simp only [Bool.and_eq_true, beq_iff_eq, Bool.not_eq_true', decide_eq_true_eq] at h5
  obtain ⟨⟨⟨⟨⟨g1, g2⟩, g3⟩, g4⟩, g5⟩, g6⟩ := h5
  simp [Cond.before, Cond.holds, Cond.value, h1, h2, h3, h4, g1, g2, g3, g4, g5, g6]
def isCode : Jvm.Cond → Bool
  | .code _ _ _ _ => true
  | _ => false
theorem all_split {L : List Jvm.Cond} {P : Jvm.Cond → Bool} (h1 : L.all (fun c => isCode c || P c) = true) (h2 : ∀ c ∈ L.filter isCode, P c = true) : L.all P = true := by
  refine List.all_eq_true.mpr fun c hc => ?_
  have h := List.all_eq_true.mp h1 c hc
  rcases Bool.eq_false_or_eq_true (isCode c) with hi | hi
  · exact h2 c (List.mem_filter.mpr ⟨hc, hi⟩)
  · simpa [hi] using h
set_option maxRecDepth 65536 in
theorem w_c0 : (Jvm.Cond.code x code maxLocals ret).before args0 about1 = true := code_word (m := ⟨1, 1⟩) (meth := k1m1) (c := k1c1) (by decide +kernel) rfl rfl rfl (by decide +kernel)
set_option maxRecDepth 65536 in
theorem w_c1 : (Jvm.Cond.code ({ cls := "com/example/grantgraph/grantgraph/model/SubjectSetTypeToStringPinLaw", name := "mk", desc := "(ICC)Ljava/lang/String;" } : Jvm.MethodName) method_3_code (3 : Nat) (Option.some (Jvm.ClassFile.FieldType.object "java/lang/String"))).before args0 about1 = true := code_word (m := ⟨1, 2⟩) (meth := k1m2) (c := k1c2) (by decide +kernel) rfl rfl rfl (by decide +kernel)
set_option maxRecDepth 65536 in
theorem w_c2 : (Jvm.Cond.code ({ cls := "java/lang/String", name := "<init>", desc := "([C)V" } : Jvm.MethodName) jdk_42_method_3_code (2 : Nat) (Option.none : Option Jvm.ClassFile.FieldType)).before args0 about1 = true := code_word (m := ⟨7, 1⟩) (meth := k7m1) (c := k7c1) (by decide +kernel) rfl rfl rfl (by decide +kernel)
set_option maxRecDepth 65536 in
theorem w_c3 : (Jvm.Cond.code ({ cls := "java/lang/String", name := "<init>", desc := "([CIILjava/lang/Void;)V" } : Jvm.MethodName) jdk_42_method_149_code (6 : Nat) (Option.none : Option Jvm.ClassFile.FieldType)).before args0 about1 = true := code_word (m := ⟨7, 6⟩) (meth := k7m6) (c := k7c6) (by decide +kernel) rfl rfl rfl (by decide +kernel)
set_option maxRecDepth 65536 in
theorem w_c4 : (Jvm.Cond.code ({ cls := "java/lang/Object", name := "<init>", desc := "()V" } : Jvm.MethodName) object_method_1_code (1 : Nat) (Option.none : Option Jvm.ClassFile.FieldType)).before args0 about1 = true := code_word (m := ⟨0, 0⟩) (meth := k0m0) (c := k0c0) (by decide +kernel) rfl rfl rfl (by decide +kernel)
set_option maxRecDepth 65536 in
theorem w_c5 : (Jvm.Cond.code ({ cls := "com/example/grantgraph/grantgraph/model/SubjectSetType", name := "<init>", desc := "(Ljava/lang/String;Ljava/lang/String;)V" } : Jvm.MethodName) prog_31_method_1_code (3 : Nat) (Option.none : Option Jvm.ClassFile.FieldType)).before args0 about1 = true := code_word (m := ⟨9, 0⟩) (meth := k9m0) (c := k9c0) (by decide +kernel) rfl rfl rfl (by decide +kernel)
set_option maxRecDepth 65536 in
theorem w_c6 : (Jvm.Cond.code ({ cls := "java/lang/Record", name := "<init>", desc := "()V" } : Jvm.MethodName) jdk_30_method_1_code (1 : Nat) (Option.none : Option Jvm.ClassFile.FieldType)).before args0 about1 = true := code_word (m := ⟨8, 0⟩) (meth := k8m0) (c := k8c0) (by decide +kernel) rfl rfl rfl (by decide +kernel)
set_option maxRecDepth 65536 in
theorem w_c7 : (Jvm.Cond.code ({ cls := "com/example/grantgraph/grantgraph/model/SubjectSetType", name := "toString", desc := "()Ljava/lang/String;" } : Jvm.MethodName) prog_31_method_2_code (1 : Nat) (Option.some (Jvm.ClassFile.FieldType.object "java/lang/String"))).before args0 about1 = true := code_word (m := ⟨9, 1⟩) (meth := k9m1) (c := k9c1) (by decide +kernel) rfl rfl rfl (by decide +kernel)
set_option maxRecDepth 65536 in
theorem w_c8 : (Jvm.Cond.code ({ cls := "java/lang/StringBuilder", name := "<init>", desc := "()V" } : Jvm.MethodName) jdk_67_method_1_code (1 : Nat) (Option.none : Option Jvm.ClassFile.FieldType)).before args0 about1 = true := code_word (m := ⟨12, 0⟩) (meth := k12m0) (c := k12c0) (by decide +kernel) rfl rfl rfl (by decide +kernel)
set_option maxRecDepth 65536 in
theorem w_c9 : (Jvm.Cond.code ({ cls := "java/lang/AbstractStringBuilder", name := "<init>", desc := "(I)V" } : Jvm.MethodName) jdk_68_method_2_code (2 : Nat) (Option.none : Option Jvm.ClassFile.FieldType)).before args0 about1 = true := code_word (m := ⟨11, 1⟩) (meth := k11m1) (c := k11c1) (by decide +kernel) rfl rfl rfl (by decide +kernel)
set_option maxRecDepth 65536 in
theorem w_c10 : (Jvm.Cond.code ({ cls := "java/lang/StringBuilder", name := "append", desc := "(Ljava/lang/String;)Ljava/lang/StringBuilder;" } : Jvm.MethodName) jdk_67_method_7_code (2 : Nat) (Option.some (Jvm.ClassFile.FieldType.object "java/lang/StringBuilder"))).before args0 about1 = true := code_word (m := ⟨12, 1⟩) (meth := k12m1) (c := k12c1) (by decide +kernel) rfl rfl rfl (by decide +kernel)
set_option maxRecDepth 65536 in
theorem w_c11 : (Jvm.Cond.code ({ cls := "java/lang/AbstractStringBuilder", name := "append", desc := "(Ljava/lang/String;)Ljava/lang/AbstractStringBuilder;" } : Jvm.MethodName) jdk_68_method_22_code (3 : Nat) (Option.some (Jvm.ClassFile.FieldType.object "java/lang/AbstractStringBuilder"))).before args0 about1 = true := code_word (m := ⟨11, 4⟩) (meth := k11m4) (c := k11c4) (by decide +kernel) rfl rfl rfl (by decide +kernel)
set_option maxRecDepth 65536 in
theorem w_c12 : (Jvm.Cond.code ({ cls := "java/lang/String", name := "length", desc := "()I" } : Jvm.MethodName) jdk_42_method_54_code (1 : Nat) (Option.some Jvm.ClassFile.FieldType.int)).before args0 about1 = true := code_word (m := ⟨7, 3⟩) (meth := k7m3) (c := k7c3) (by decide +kernel) rfl rfl rfl (by decide +kernel)
set_option maxRecDepth 65536 in
theorem w_c13 : (Jvm.Cond.code ({ cls := "java/lang/String", name := "coder", desc := "()B" } : Jvm.MethodName) jdk_42_method_152_code (1 : Nat) (Option.some Jvm.ClassFile.FieldType.byte)).before args0 about1 = true := code_word (m := ⟨7, 8⟩) (meth := k7m8) (c := k7c8) (by decide +kernel) rfl rfl rfl (by decide +kernel)
set_option maxRecDepth 65536 in
theorem w_c14 : (Jvm.Cond.code ({ cls := "java/lang/AbstractStringBuilder", name := "ensureCapacityInternal", desc := "(I)V" } : Jvm.MethodName) jdk_68_method_9_code (3 : Nat) (Option.none : Option Jvm.ClassFile.FieldType)).before args0 about1 = true := code_word (m := ⟨11, 3⟩) (meth := k11m3) (c := k11c3) (by decide +kernel) rfl rfl rfl (by decide +kernel)
set_option maxRecDepth 65536 in
theorem w_c15 : (Jvm.Cond.code ({ cls := "java/lang/AbstractStringBuilder", name := "putStringAt", desc := "(ILjava/lang/String;)V" } : Jvm.MethodName) jdk_68_method_73_code (3 : Nat) (Option.none : Option Jvm.ClassFile.FieldType)).before args0 about1 = true := code_word (m := ⟨11, 8⟩) (meth := k11m8) (c := k11c8) (by decide +kernel) rfl rfl rfl (by decide +kernel)
set_option maxRecDepth 65536 in
theorem w_c16 : (Jvm.Cond.code ({ cls := "java/lang/AbstractStringBuilder", name := "inflateIfNeededFor", desc := "(Ljava/lang/String;)V" } : Jvm.MethodName) jdk_68_method_71_code (2 : Nat) (Option.none : Option Jvm.ClassFile.FieldType)).before args0 about1 = true := code_word (m := ⟨11, 7⟩) (meth := k11m7) (c := k11c7) (by decide +kernel) rfl rfl rfl (by decide +kernel)
set_option maxRecDepth 65536 in
theorem w_c17 : (Jvm.Cond.code ({ cls := "java/lang/String", name := "getBytes", desc := "([BIB)V" } : Jvm.MethodName) jdk_42_method_147_code (4 : Nat) (Option.none : Option Jvm.ClassFile.FieldType)).before args0 about1 = true := code_word (m := ⟨7, 5⟩) (meth := k7m5) (c := k7c5) (by decide +kernel) rfl rfl rfl (by decide +kernel)
set_option maxRecDepth 65536 in
theorem w_c18 : (Jvm.Cond.code ({ cls := "java/lang/StringBuilder", name := "toString", desc := "()Ljava/lang/String;" } : Jvm.MethodName) jdk_67_method_42_code (1 : Nat) (Option.some (Jvm.ClassFile.FieldType.object "java/lang/String"))).before args0 about1 = true := code_word (m := ⟨12, 2⟩) (meth := k12m2) (c := k12c2) (by decide +kernel) rfl rfl rfl (by decide +kernel)
set_option maxRecDepth 65536 in
theorem w_c19 : (Jvm.Cond.code ({ cls := "java/lang/String", name := "<init>", desc := "(Ljava/lang/StringBuilder;)V" } : Jvm.MethodName) jdk_42_method_53_code (2 : Nat) (Option.none : Option Jvm.ClassFile.FieldType)).before args0 about1 = true := code_word (m := ⟨7, 2⟩) (meth := k7m2) (c := k7c2) (by decide +kernel) rfl rfl rfl (by decide +kernel)
set_option maxRecDepth 65536 in
theorem w_c20 : (Jvm.Cond.code ({ cls := "java/lang/String", name := "<init>", desc := "(Ljava/lang/AbstractStringBuilder;Ljava/lang/Void;)V" } : Jvm.MethodName) jdk_42_method_150_code (5 : Nat) (Option.none : Option Jvm.ClassFile.FieldType)).before args0 about1 = true := code_word (m := ⟨7, 7⟩) (meth := k7m7) (c := k7c7) (by decide +kernel) rfl rfl rfl (by decide +kernel)
set_option maxRecDepth 65536 in
theorem w_c21 : (Jvm.Cond.code ({ cls := "java/lang/AbstractStringBuilder", name := "getValue", desc := "()[B" } : Jvm.MethodName) jdk_68_method_64_code (1 : Nat) (Option.some (Jvm.ClassFile.FieldType.array Jvm.ClassFile.FieldType.byte))).before args0 about1 = true := code_word (m := ⟨11, 5⟩) (meth := k11m5) (c := k11c5) (by decide +kernel) rfl rfl rfl (by decide +kernel)
set_option maxRecDepth 65536 in
theorem w_c22 : (Jvm.Cond.code ({ cls := "java/lang/StringBuilder", name := "length", desc := "()I" } : Jvm.MethodName) jdk_67_method_93_code (1 : Nat) (Option.some Jvm.ClassFile.FieldType.int)).before args0 about1 = true := code_word (m := ⟨12, 3⟩) (meth := k12m3) (c := k12c3) (by decide +kernel) rfl rfl rfl (by decide +kernel)
set_option maxRecDepth 65536 in
theorem w_c23 : (Jvm.Cond.code ({ cls := "java/lang/AbstractStringBuilder", name := "length", desc := "()I" } : Jvm.MethodName) jdk_68_method_6_code (1 : Nat) (Option.some Jvm.ClassFile.FieldType.int)).before args0 about1 = true := code_word (m := ⟨11, 2⟩) (meth := k11m2) (c := k11c2) (by decide +kernel) rfl rfl rfl (by decide +kernel)
set_option maxRecDepth 65536 in
theorem w_c24 : (Jvm.Cond.code ({ cls := "java/lang/AbstractStringBuilder", name := "isLatin1", desc := "()Z" } : Jvm.MethodName) jdk_68_method_68_code (1 : Nat) (Option.some Jvm.ClassFile.FieldType.boolean)).before args0 about1 = true := code_word (m := ⟨11, 6⟩) (meth := k11m6) (c := k11c6) (by decide +kernel) rfl rfl rfl (by decide +kernel)
set_option maxRecDepth 65536 in
theorem w_c25 : (Jvm.Cond.code ({ cls := "java/util/Arrays", name := "copyOfRange", desc := "([BII)[B" } : Jvm.MethodName) jdk_65_method_132_code (3 : Nat) (Option.some (Jvm.ClassFile.FieldType.array Jvm.ClassFile.FieldType.byte))).before args0 about1 = true := code_word (m := ⟨14, 2⟩) (meth := k14m2) (c := k14c2) (by decide +kernel) rfl rfl rfl (by decide +kernel)
set_option maxRecDepth 65536 in
theorem w_c26 : (Jvm.Cond.code ({ cls := "java/util/Arrays", name := "copyOfRangeByte", desc := "([BII)[B" } : Jvm.MethodName) jdk_65_method_133_code (5 : Nat) (Option.some (Jvm.ClassFile.FieldType.array Jvm.ClassFile.FieldType.byte))).before args0 about1 = true := code_word (m := ⟨14, 3⟩) (meth := k14m3) (c := k14c3) (by decide +kernel) rfl rfl rfl (by decide +kernel)
set_option maxRecDepth 65536 in
theorem w_c27 : (Jvm.Cond.code ({ cls := "java/util/Arrays", name := "checkLength", desc := "(II)V" } : Jvm.MethodName) jdk_65_method_131_code (2 : Nat) (Option.none : Option Jvm.ClassFile.FieldType)).before args0 about1 = true := code_word (m := ⟨14, 1⟩) (meth := k14m1) (c := k14c1) (by decide +kernel) rfl rfl rfl (by decide +kernel)
set_option maxRecDepth 65536 in
theorem w_c28 : (Jvm.Cond.code ({ cls := "java/lang/Math", name := "min", desc := "(II)I" } : Jvm.MethodName) jdk_29_method_69_code (2 : Nat) (Option.some Jvm.ClassFile.FieldType.int)).before args0 about1 = true := code_word (m := ⟨15, 1⟩) (meth := k15m1) (c := k15c1) (by decide +kernel) rfl rfl rfl (by decide +kernel)
set_option maxRecDepth 65536 in
theorem w_c29 : (Jvm.Cond.code ({ cls := "com/example/grantgraph/grantgraph/model/SubjectSetTypeToStringPinLaw", name := "ok", desc := "(Ljava/lang/String;Ljava/lang/String;Ljava/lang/String;I)Z" } : Jvm.MethodName) method_4_code (5 : Nat) (Option.some Jvm.ClassFile.FieldType.boolean)).before args0 about1 = true := code_word (m := ⟨1, 3⟩) (meth := k1m3) (c := k1c3) (by decide +kernel) rfl rfl rfl (by decide +kernel)
set_option maxRecDepth 65536 in
theorem w_c30 : (Jvm.Cond.code ({ cls := "java/lang/String", name := "charAt", desc := "(I)C" } : Jvm.MethodName) jdk_42_method_56_code (2 : Nat) (Option.some Jvm.ClassFile.FieldType.char)).before args0 about1 = true := code_word (m := ⟨7, 4⟩) (meth := k7m4) (c := k7c4) (by decide +kernel) rfl rfl rfl (by decide +kernel)
set_option maxRecDepth 65536 in
theorem w_c31 : (Jvm.Cond.code ({ cls := "java/lang/String", name := "isLatin1", desc := "()Z" } : Jvm.MethodName) jdk_42_method_154_code (1 : Nat) (Option.some Jvm.ClassFile.FieldType.boolean)).before args0 about1 = true := code_word (m := ⟨7, 9⟩) (meth := k7m9) (c := k7c9) (by decide +kernel) rfl rfl rfl (by decide +kernel)
set_option maxRecDepth 65536 in
theorem w_c32 : (Jvm.Cond.code ({ cls := "java/lang/StringLatin1", name := "charAt", desc := "([BI)C" } : Jvm.MethodName) jdk_43_method_2_code (2 : Nat) (Option.some Jvm.ClassFile.FieldType.char)).before args0 about1 = true := code_word (m := ⟨16, 1⟩) (meth := k16m1) (c := k16c1) (by decide +kernel) rfl rfl rfl (by decide +kernel)
set_option maxRecDepth 65536 in
theorem w_c33 : (Jvm.Cond.code ({ cls := "java/lang/String", name := "checkIndex", desc := "(II)V" } : Jvm.MethodName) jdk_42_method_155_code (2 : Nat) (Option.none : Option Jvm.ClassFile.FieldType)).before args0 about1 = true := code_word (m := ⟨7, 10⟩) (meth := k7m10) (c := k7c10) (by decide +kernel) rfl rfl rfl (by decide +kernel)
set_option maxRecDepth 65536 in
theorem w_c34 : (Jvm.Cond.code ({ cls := "jdk/internal/util/Preconditions", name := "checkIndex", desc := "(IILjava/util/function/BiFunction;)I" } : Jvm.MethodName) jdk_41_method_11_code (3 : Nat) (Option.some Jvm.ClassFile.FieldType.int)).before args0 about1 = true := code_word (m := ⟨17, 1⟩) (meth := k17m1) (c := k17c1) (by decide +kernel) rfl rfl rfl (by decide +kernel)
set_option maxRecDepth 65536 in
theorem w_c35 : (Jvm.Cond.code ({ cls := "java/lang/StringUTF16", name := "compress", desc := "([CII)[B" } : Jvm.MethodName) jdk_52_method_16_code (6 : Nat) (Option.some (Jvm.ClassFile.FieldType.array Jvm.ClassFile.FieldType.byte))).before args0 about1 = true := code_word (m := ⟨18, 2⟩) (meth := k18m2) (c := k18c2) (by decide +kernel) rfl rfl rfl (by decide +kernel)
set_option maxRecDepth 65536 in
theorem w_c36 : (Jvm.Cond.code ({ cls := "java/lang/StringUTF16", name := "compress", desc := "([CI[BII)I" } : Jvm.MethodName) jdk_52_method_21_code (7 : Nat) (Option.some Jvm.ClassFile.FieldType.int)).before args0 about1 = true := code_word (m := ⟨18, 3⟩) (meth := k18m3) (c := k18c3) (by decide +kernel) rfl rfl rfl (by decide +kernel)
set_option maxRecDepth 65536 in
theorem w_c37 : (Jvm.Cond.code ({ cls := "java/lang/StringUTF16", name := "coderFromArrayLen", desc := "([BI)B" } : Jvm.MethodName) jdk_52_method_15_code (2 : Nat) (Option.some Jvm.ClassFile.FieldType.byte)).before args0 about1 = true := code_word (m := ⟨18, 1⟩) (meth := k18m1) (c := k18c1) (by decide +kernel) rfl rfl rfl (by decide +kernel)
def codes1 : List Jvm.Cond := [Jvm.Cond.code x code maxLocals ret, Jvm.Cond.code ({ cls := "com/example/grantgraph/grantgraph/model/SubjectSetTypeToStringPinLaw", name := "mk", desc := "(ICC)Ljava/lang/String;" } : Jvm.MethodName) method_3_code (3 : Nat) (Option.some (Jvm.ClassFile.FieldType.object "java/lang/String")), Jvm.Cond.code ({ cls := "java/lang/String", name := "<init>", desc := "([C)V" } : Jvm.MethodName) jdk_42_method_3_code (2 : Nat) (Option.none : Option Jvm.ClassFile.FieldType), Jvm.Cond.code ({ cls := "java/lang/String", name := "<init>", desc := "([CIILjava/lang/Void;)V" } : Jvm.MethodName) jdk_42_method_149_code (6 : Nat) (Option.none : Option Jvm.ClassFile.FieldType), Jvm.Cond.code ({ cls := "java/lang/Object", name := "<init>", desc := "()V" } : Jvm.MethodName) object_method_1_code (1 : Nat) (Option.none : Option Jvm.ClassFile.FieldType), Jvm.Cond.code ({ cls := "com/example/grantgraph/grantgraph/model/SubjectSetType", name := "<init>", desc := "(Ljava/lang/String;Ljava/lang/String;)V" } : Jvm.MethodName) prog_31_method_1_code (3 : Nat) (Option.none : Option Jvm.ClassFile.FieldType), Jvm.Cond.code ({ cls := "java/lang/Record", name := "<init>", desc := "()V" } : Jvm.MethodName) jdk_30_method_1_code (1 : Nat) (Option.none : Option Jvm.ClassFile.FieldType), Jvm.Cond.code ({ cls := "com/example/grantgraph/grantgraph/model/SubjectSetType", name := "toString", desc := "()Ljava/lang/String;" } : Jvm.MethodName) prog_31_method_2_code (1 : Nat) (Option.some (Jvm.ClassFile.FieldType.object "java/lang/String")), Jvm.Cond.code ({ cls := "java/lang/StringBuilder", name := "<init>", desc := "()V" } : Jvm.MethodName) jdk_67_method_1_code (1 : Nat) (Option.none : Option Jvm.ClassFile.FieldType), Jvm.Cond.code ({ cls := "java/lang/AbstractStringBuilder", name := "<init>", desc := "(I)V" } : Jvm.MethodName) jdk_68_method_2_code (2 : Nat) (Option.none : Option Jvm.ClassFile.FieldType), Jvm.Cond.code ({ cls := "java/lang/StringBuilder", name := "append", desc := "(Ljava/lang/String;)Ljava/lang/StringBuilder;" } : Jvm.MethodName) jdk_67_method_7_code (2 : Nat) (Option.some (Jvm.ClassFile.FieldType.object "java/lang/StringBuilder")), Jvm.Cond.code ({ cls := "java/lang/AbstractStringBuilder", name := "append", desc := "(Ljava/lang/String;)Ljava/lang/AbstractStringBuilder;" } : Jvm.MethodName) jdk_68_method_22_code (3 : Nat) (Option.some (Jvm.ClassFile.FieldType.object "java/lang/AbstractStringBuilder")), Jvm.Cond.code ({ cls := "java/lang/String", name := "length", desc := "()I" } : Jvm.MethodName) jdk_42_method_54_code (1 : Nat) (Option.some Jvm.ClassFile.FieldType.int), Jvm.Cond.code ({ cls := "java/lang/String", name := "coder", desc := "()B" } : Jvm.MethodName) jdk_42_method_152_code (1 : Nat) (Option.some Jvm.ClassFile.FieldType.byte), Jvm.Cond.code ({ cls := "java/lang/AbstractStringBuilder", name := "ensureCapacityInternal", desc := "(I)V" } : Jvm.MethodName) jdk_68_method_9_code (3 : Nat) (Option.none : Option Jvm.ClassFile.FieldType), Jvm.Cond.code ({ cls := "java/lang/AbstractStringBuilder", name := "putStringAt", desc := "(ILjava/lang/String;)V" } : Jvm.MethodName) jdk_68_method_73_code (3 : Nat) (Option.none : Option Jvm.ClassFile.FieldType), Jvm.Cond.code ({ cls := "java/lang/AbstractStringBuilder", name := "inflateIfNeededFor", desc := "(Ljava/lang/String;)V" } : Jvm.MethodName) jdk_68_method_71_code (2 : Nat) (Option.none : Option Jvm.ClassFile.FieldType), Jvm.Cond.code ({ cls := "java/lang/String", name := "getBytes", desc := "([BIB)V" } : Jvm.MethodName) jdk_42_method_147_code (4 : Nat) (Option.none : Option Jvm.ClassFile.FieldType), Jvm.Cond.code ({ cls := "java/lang/StringBuilder", name := "toString", desc := "()Ljava/lang/String;" } : Jvm.MethodName) jdk_67_method_42_code (1 : Nat) (Option.some (Jvm.ClassFile.FieldType.object "java/lang/String")), Jvm.Cond.code ({ cls := "java/lang/String", name := "<init>", desc := "(Ljava/lang/StringBuilder;)V" } : Jvm.MethodName) jdk_42_method_53_code (2 : Nat) (Option.none : Option Jvm.ClassFile.FieldType), Jvm.Cond.code ({ cls := "java/lang/String", name := "<init>", desc := "(Ljava/lang/AbstractStringBuilder;Ljava/lang/Void;)V" } : Jvm.MethodName) jdk_42_method_150_code (5 : Nat) (Option.none : Option Jvm.ClassFile.FieldType), Jvm.Cond.code ({ cls := "java/lang/AbstractStringBuilder", name := "getValue", desc := "()[B" } : Jvm.MethodName) jdk_68_method_64_code (1 : Nat) (Option.some (Jvm.ClassFile.FieldType.array Jvm.ClassFile.FieldType.byte)), Jvm.Cond.code ({ cls := "java/lang/StringBuilder", name := "length", desc := "()I" } : Jvm.MethodName) jdk_67_method_93_code (1 : Nat) (Option.some Jvm.ClassFile.FieldType.int), Jvm.Cond.code ({ cls := "java/lang/AbstractStringBuilder", name := "length", desc := "()I" } : Jvm.MethodName) jdk_68_method_6_code (1 : Nat) (Option.some Jvm.ClassFile.FieldType.int), Jvm.Cond.code ({ cls := "java/lang/AbstractStringBuilder", name := "isLatin1", desc := "()Z" } : Jvm.MethodName) jdk_68_method_68_code (1 : Nat) (Option.some Jvm.ClassFile.FieldType.boolean), Jvm.Cond.code ({ cls := "java/util/Arrays", name := "copyOfRange", desc := "([BII)[B" } : Jvm.MethodName) jdk_65_method_132_code (3 : Nat) (Option.some (Jvm.ClassFile.FieldType.array Jvm.ClassFile.FieldType.byte)), Jvm.Cond.code ({ cls := "java/util/Arrays", name := "copyOfRangeByte", desc := "([BII)[B" } : Jvm.MethodName) jdk_65_method_133_code (5 : Nat) (Option.some (Jvm.ClassFile.FieldType.array Jvm.ClassFile.FieldType.byte)), Jvm.Cond.code ({ cls := "java/util/Arrays", name := "checkLength", desc := "(II)V" } : Jvm.MethodName) jdk_65_method_131_code (2 : Nat) (Option.none : Option Jvm.ClassFile.FieldType), Jvm.Cond.code ({ cls := "java/lang/Math", name := "min", desc := "(II)I" } : Jvm.MethodName) jdk_29_method_69_code (2 : Nat) (Option.some Jvm.ClassFile.FieldType.int), Jvm.Cond.code ({ cls := "com/example/grantgraph/grantgraph/model/SubjectSetTypeToStringPinLaw", name := "ok", desc := "(Ljava/lang/String;Ljava/lang/String;Ljava/lang/String;I)Z" } : Jvm.MethodName) method_4_code (5 : Nat) (Option.some Jvm.ClassFile.FieldType.boolean), Jvm.Cond.code ({ cls := "java/lang/String", name := "charAt", desc := "(I)C" } : Jvm.MethodName) jdk_42_method_56_code (2 : Nat) (Option.some Jvm.ClassFile.FieldType.char), Jvm.Cond.code ({ cls := "java/lang/String", name := "isLatin1", desc := "()Z" } : Jvm.MethodName) jdk_42_method_154_code (1 : Nat) (Option.some Jvm.ClassFile.FieldType.boolean), Jvm.Cond.code ({ cls := "java/lang/StringLatin1", name := "charAt", desc := "([BI)C" } : Jvm.MethodName) jdk_43_method_2_code (2 : Nat) (Option.some Jvm.ClassFile.FieldType.char), Jvm.Cond.code ({ cls := "java/lang/String", name := "checkIndex", desc := "(II)V" } : Jvm.MethodName) jdk_42_method_155_code (2 : Nat) (Option.none : Option Jvm.ClassFile.FieldType), Jvm.Cond.code ({ cls := "jdk/internal/util/Preconditions", name := "checkIndex", desc := "(IILjava/util/function/BiFunction;)I" } : Jvm.MethodName) jdk_41_method_11_code (3 : Nat) (Option.some Jvm.ClassFile.FieldType.int), Jvm.Cond.code ({ cls := "java/lang/StringUTF16", name := "compress", desc := "([CII)[B" } : Jvm.MethodName) jdk_52_method_16_code (6 : Nat) (Option.some (Jvm.ClassFile.FieldType.array Jvm.ClassFile.FieldType.byte)), Jvm.Cond.code ({ cls := "java/lang/StringUTF16", name := "compress", desc := "([CI[BII)I" } : Jvm.MethodName) jdk_52_method_21_code (7 : Nat) (Option.some Jvm.ClassFile.FieldType.int), Jvm.Cond.code ({ cls := "java/lang/StringUTF16", name := "coderFromArrayLen", desc := "([BI)B" } : Jvm.MethodName) jdk_52_method_15_code (2 : Nat) (Option.some Jvm.ClassFile.FieldType.byte)]
set_option maxRecDepth 65536 in
theorem codes_eq : words1.filter isCode = codes1 := rfl
theorem w_codes : ∀ c ∈ words1.filter isCode, c.before args0 about1 = true := by
  rw [codes_eq]
  intro c hc
  simp only [codes1, List.mem_cons, List.not_mem_nil, or_false] at hc
  rcases hc with rfl | rfl | rfl | rfl | rfl | rfl | rfl | rfl | rfl | rfl | rfl | rfl | rfl | rfl | rfl | rfl | rfl | rfl | rfl | rfl | rfl | rfl | rfl | rfl | rfl | rfl | rfl | rfl | rfl | rfl | rfl | rfl | rfl | rfl | rfl | rfl | rfl | rfl
  · exact w_c0
  · exact w_c1
  · exact w_c2
  · exact w_c3
  · exact w_c4
  · exact w_c5
  · exact w_c6
  · exact w_c7
  · exact w_c8
  · exact w_c9
  · exact w_c10
  · exact w_c11
  · exact w_c12
  · exact w_c13
  · exact w_c14
  · exact w_c15
  · exact w_c16
  · exact w_c17
  · exact w_c18
  · exact w_c19
  · exact w_c20
  · exact w_c21
  · exact w_c22
  · exact w_c23
  · exact w_c24
  · exact w_c25
  · exact w_c26
  · exact w_c27
  · exact w_c28
  · exact w_c29
  · exact w_c30
  · exact w_c31
  · exact w_c32
  · exact w_c33
  · exact w_c34
  · exact w_c35
  · exact w_c36
  · exact w_c37
set_option maxRecDepth 65536 in
theorem w_t1 : (words1.take 24).all (fun c => isCode c || c.before args0 about1) = true := by decide +kernel
set_option maxRecDepth 65536 in
theorem w_t2 : ((words1.drop 24).take 24).all (fun c => isCode c || c.before args0 about1) = true := by decide +kernel
set_option maxRecDepth 65536 in
theorem w_t3 : (((words1.drop 24).drop 24).take 24).all (fun c => isCode c || c.before args0 about1) = true := by decide +kernel
set_option maxRecDepth 65536 in
theorem w_t4 : ((((words1.drop 24).drop 24).drop 24).take 24).all (fun c => isCode c || c.before args0 about1) = true := by decide +kernel
set_option maxRecDepth 65536 in
theorem w_t5 : (((((words1.drop 24).drop 24).drop 24).drop 24).take 24).all (fun c => isCode c || c.before args0 about1) = true := by decide +kernel
set_option maxRecDepth 65536 in
theorem w_t6 : ((((((words1.drop 24).drop 24).drop 24).drop 24).drop 24).take 24).all (fun c => isCode c || c.before args0 about1) = true := by decide +kernel
set_option maxRecDepth 65536 in
theorem w_t7 : (((((((words1.drop 24).drop 24).drop 24).drop 24).drop 24).drop 24).take 24).all (fun c => isCode c || c.before args0 about1) = true := by decide +kernel
set_option maxRecDepth 65536 in
theorem w_t8 : ((((((((words1.drop 24).drop 24).drop 24).drop 24).drop 24).drop 24).drop 24).take 24).all (fun c => isCode c || c.before args0 about1) = true := by decide +kernel
set_option maxRecDepth 65536 in
theorem w_t9 : ((((((((words1.drop 24).drop 24).drop 24).drop 24).drop 24).drop 24).drop 24).drop 24).all (fun c => isCode c || c.before args0 about1) = true := by decide +kernel
theorem w_tables : (allAtoms (Jvm.Cond.code x code maxLocals ret :: tables_1)).before args0 about1 = true := by
  rw [allAtoms_all]
  show words1.all (fun c => c.before args0 about1) = true
  refine all_split ?_ w_codes
  rw [← List.take_append_drop 24 words1, List.all_append, w_t1, ← List.take_append_drop 24 (words1.drop 24), List.all_append, w_t2, ← List.take_append_drop 24 ((words1.drop 24).drop 24), List.all_append, w_t3, ← List.take_append_drop 24 (((words1.drop 24).drop 24).drop 24), List.all_append, w_t4, ← List.take_append_drop 24 ((((words1.drop 24).drop 24).drop 24).drop 24), List.all_append, w_t5, ← List.take_append_drop 24 (((((words1.drop 24).drop 24).drop 24).drop 24).drop 24), List.all_append, w_t6, ← List.take_append_drop 24 ((((((words1.drop 24).drop 24).drop 24).drop 24).drop 24).drop 24), List.all_append, w_t7, ← List.take_append_drop 24 (((((((words1.drop 24).drop 24).drop 24).drop 24).drop 24).drop 24).drop 24), List.all_append, w_t8, w_t9]
  rfl
set_option maxRecDepth 65536 in
theorem w_rest : rest_1_c.before args0 about1 = true := by decide +kernel
set_option maxRecDepth 65536 in
theorem w_case : (Jvm.Cond.and given_1 narrow_1).before args0 about1 = true := by decide +kernel
set_option maxRecDepth 65536 in
theorem w_consts : constsHeld consts_1 about1 := Jvm.Lit.constsHeldB_iff.mp (by decide +kernel)
theorem w_applies : (headSpec (Jvm.Cond.code x code maxLocals ret :: tables_1) room_1).applies x e0.platform about1 = true :=
  (Spec.applies_iff w_frames).mpr ⟨w_running, w_runnable, w_alone, w_named, w_hears, w_ripe, w_room, w_tables⟩
theorem atStart : AtStart classFile x code maxLocals ret World_1 tables_1 room_1 Calls_1 rest_1 Pre_1 launch0 p0 e0 about1 theMethod args0 below0 :=
  ⟨lists_1, trivial, launch0.admits_env _ _ _, launch0.least_env, fairChoices_fair.cas, fairChoices_fair.clock, w_frames, w_args, w_heap, w_applies, ⟨w_consts, trivial⟩, w_rest, w_case⟩
end start1
theorem witness_1 : WitnessClaimed_1 := ⟨start1.p0, start1.e0, start1.about1, start1.theMethod, start1.args0, start1.below0, start1.atStart⟩
end Jvm.Pilot.@@N@@
