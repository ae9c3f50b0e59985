import JvmDerived
import JvmDerived.Pilot.@@N@@Statement
import JvmDerived.Pilot.@@N@@Code
set_option linter.unusedVariables false
set_option linter.unusedSimpArgs false
namespace Jvm.RoadKit
open Sem ClassFile Op Lib Jvm.Stand Jvm.Free Jvm.LawKit
section New
variable {p : Program} {l : Launch} {e : Env} {R : Room} {s : State} {m : MethodId} {args : Array Value} {below : List Frame} {meth : Method} {c : Code} {T T' : State} {locs : List Loc} {cells slots : Nat}
theorem retI (X : Stand p l e R s m args below meth c T locs cells slots) (hx : p.tables.exec = Jvm.exec) {pc : Nat} {Ls : Array Slot} {z : Int32} {rest : List Value} (hret : meth.sig.returnType = some .int) (hd : decode c.code pc = .ok (.ireturn, 1)) {fs : List Frame}
    (hl : ∀ (f : JFrame) (acts : List Action), f.method = m → f.locked = none → f.entered = [] → (doReturn e (T.setTop f) acts (some (.int z))).1 = T.setFrames fs) : Steps p.tables e below (T.setTop (mkF m pc Ls (.int z :: rest))) (T.setFrames fs) := by
  have hm' : T.vm.method? m = some meth := X.method'
  have hn : narrow .int (.int z) = .int z := rfl
  show Steps p.tables e below (T.setTop { method := m, pc := pc, locals := Ls, stack := _ :: rest, locked := none }) _
  jvm_step X.here [X.here.top, hx, hd, hm', hret, hn]
  first | (intro acts; rw [hl _ acts rfl rfl rfl]) | rw [hl _ _ rfl rfl rfl]
  exact Steps.refl _
/-- from here the run comes to its return, and Q holds of what it returns, of the heap and of what it wrote -/
def Go (p : Program) (e : Env) (below : List Frame) (s : State) (Q : Option Value → Heap → List Loc → Prop) (kc ks : Nat) (T : State) (g : JFrame) : Prop :=
  ∃ s₂ o, Steps p.tables e below (T.setTop g) s₂ ∧ s₂.status = .running ∧ Ended s₂ below o ∧ ∃ v L, o = .returned v ∧ Q v s₂.heap L ∧ FrameEnd s o s₂ L kc ks
variable {Q : Option Value → Heap → List Loc → Prop} {kc ks : Nat} {g g' : JFrame}
theorem Go.step (h : ∀ t, Steps p.tables e below (T'.setTop g') t → Steps p.tables e below (T.setTop g) t) (k : Go p e below s Q kc ks T' g') : Go p e below s Q kc ks T g := by
  obtain ⟨s₂, o, h1, r⟩ := k
  exact ⟨s₂, o, h _ h1, r⟩
theorem Go.cast (q : g = g') (k : Go p e below s Q kc ks T g') : Go p e below s Q kc ks T g := q ▸ k
theorem Go.done (X : Stand p l e R s m args below meth c T locs cells slots) (hlocks : meth.locks = false) {v : Option Value} (hv : meth.sig.returnType = none → v = none)
    (hret : ∀ fs, (∀ (f : JFrame) (acts : List Action), f.method = m → f.locked = none → f.entered = [] → (doReturn e (T.setTop f) acts v).1 = T.setFrames fs) → Steps p.tables e below (T.setTop g) (T.setFrames fs))
    {h : Heap} (eT : T.heap = h) (hQ : Q v h locs) (hc : cells ≤ kc) (hs : slots ≤ ks) : Go p e below s Q kc ks T g := by
  obtain ⟨fs, hr, hrun, hended, hW, hsame⟩ := X.leave hv hlocks
  refine ⟨_, _, hret fs hr, hrun, hended, _, _, rfl, ?_, ⟨_, rfl⟩, hW, hsame.mono hc hs⟩
  show Q v T.heap locs
  rw [eT]
  exact hQ
theorem Go.retV (X : Stand p l e R s m args below meth c T locs cells slots) (hx : p.tables.exec = Jvm.exec) (hlocks : meth.locks = false) (hr : meth.sig.returnType = none) {pc : Nat} {Ls : Array Slot} (hd : decode c.code pc = .ok (.return_, 1))
    {h : Heap} (eT : T.heap = h) (hQ : Q none h locs) (hc : cells ≤ kc) (hs : slots ≤ ks) : Go p e below s Q kc ks T (mkF m pc Ls []) :=
  Go.done X hlocks (fun _ => rfl) (fun fs k => X.returnOut hx hr hd k) eT hQ hc hs
theorem Go.retN (X : Stand p l e R s m args below meth c T locs cells slots) (hx : p.tables.exec = Jvm.exec) (hlocks : meth.locks = false) {t : FieldType} (hr : meth.sig.returnType = some t) (ht : t = .boolean ∨ t = .byte ∨ t = .char ∨ t = .short) {pc : Nat} {Ls : Array Slot} {z : Int32} {st : List Value} (hd : decode c.code pc = .ok (.ireturn, 1))
    {h : Heap} (eT : T.heap = h) (hQ : Q (some (.int (nar t z))) h locs) (hc : cells ≤ kc) (hs : slots ≤ ks) : Go p e below s Q kc ks T (mkF m pc Ls (.int z :: st)) :=
  Go.done X hlocks (fun q => by rw [hr] at q; cases q) (fun fs k => Jvm.RoadKit.retN X hx hr ht hd k) eT hQ hc hs
theorem Go.retI (X : Stand p l e R s m args below meth c T locs cells slots) (hx : p.tables.exec = Jvm.exec) (hlocks : meth.locks = false) (hr : meth.sig.returnType = some .int) {pc : Nat} {Ls : Array Slot} {z : Int32} {st : List Value} (hd : decode c.code pc = .ok (.ireturn, 1))
    {h : Heap} (eT : T.heap = h) (hQ : Q (some (.int z)) h locs) (hc : cells ≤ kc) (hs : slots ≤ ks) : Go p e below s Q kc ks T (mkF m pc Ls (.int z :: st)) :=
  Go.done X hlocks (fun q => by rw [hr] at q; cases q) (fun fs k => Jvm.RoadKit.retI X hx hr hd k) eT hQ hc hs
theorem Go.retJ (X : Stand p l e R s m args below meth c T locs cells slots) (hx : p.tables.exec = Jvm.exec) (hlocks : meth.locks = false) (hr : meth.sig.returnType = some .long) {pc : Nat} {Ls : Array Slot} {z : Int64} {st : List Value} (hd : decode c.code pc = .ok (.lreturn, 1))
    {h : Heap} (eT : T.heap = h) (hQ : Q (some (.long z)) h locs) (hc : cells ≤ kc) (hs : slots ≤ ks) : Go p e below s Q kc ks T (mkF m pc Ls (.long z :: st)) :=
  Go.done X hlocks (fun q => by rw [hr] at q; cases q) (fun fs k => retOut X hx hr rfl (Or.inr (Or.inl ⟨rfl, rfl, _, rfl⟩)) hd k) eT hQ hc hs
theorem Go.retA (X : Stand p l e R s m args below meth c T locs cells slots) (hx : p.tables.exec = Jvm.exec) (hlocks : meth.locks = false) {t : FieldType} (hr : meth.sig.returnType = some t) (ht : t.isReference = true) {w : Value} (hw : w.isRef = true) {pc : Nat} {Ls : Array Slot} {st : List Value} (hd : decode c.code pc = .ok (.areturn, 1))
    {h : Heap} (eT : T.heap = h) (hQ : Q (some w) h locs) (hc : cells ≤ kc) (hs : slots ≤ ks) : Go p e below s Q kc ks T (mkF m pc Ls (w :: st)) :=
  Go.done X hlocks (fun q => by rw [hr] at q; cases q) (fun fs k => retOut X hx hr (by cases t <;> first | (cases ht; done) | (rcases ref_cases hw with rfl | ⟨a, rfl⟩ <;> rfl)) (Or.inr (Or.inr (Or.inr (Or.inr ⟨rfl, ht, hw⟩)))) hd k) eT hQ hc hs
/-- .. where String constants may have been loaded on the way -/
def GoW (p : Program) (e : Env) (below : List Frame) (s : State) (Q : Option Value → Heap → List Loc → Prop) (kc ks : Nat) (T : State) (g : JFrame) : Prop :=
  ∃ s₂ o, Steps p.tables e below (T.setTop g) s₂ ∧ s₂.status = .running ∧ Ended s₂ below o ∧ ∃ v L, o = .returned v ∧ Q v s₂.heap L ∧ ReturnedEndW s o s₂ L kc ks
theorem GoW.step (h : ∀ t, Steps p.tables e below (T'.setTop g') t → Steps p.tables e below (T.setTop g) t) (k : GoW p e below s Q kc ks T' g') : GoW p e below s Q kc ks T g := by
  obtain ⟨s₂, o, h1, r⟩ := k
  exact ⟨s₂, o, h _ h1, r⟩
theorem GoW.cast (q : g = g') (k : GoW p e below s Q kc ks T g') : GoW p e below s Q kc ks T g := q ▸ k
theorem GoW.done {vm1 : Vm} {n : Nat} (X : Stand p l e R (s.setVm vm1) m args below meth c T locs cells slots) (hS : s.Since vm1 n) (hlocks : meth.locks = false) {v : Option Value} (hv : meth.sig.returnType = none → v = none)
    (hret : ∀ fs, (∀ (f : JFrame) (acts : List Action), f.method = m → f.locked = none → f.entered = [] → (doReturn e (T.setTop f) acts v).1 = T.setFrames fs) → Steps p.tables e below (T.setTop g) (T.setFrames fs))
    {h : Heap} (eT : T.heap = h) (hn : n ≤ h.size) (hQ : Q v h locs) (hc : cells ≤ kc) (hs : slots ≤ ks) : GoW p e below s Q kc ks T g := by
  obtain ⟨fs, hr, hrun, hended, hW⟩ := X.leaveW hS (by rw [eT]; exact hn) hv hlocks
  refine ⟨_, _, hret fs hr, hrun, hended, _, _, rfl, ?_, hW.1, hW.2.1, hW.2.2.1, hW.2.2.2.mono hc hs⟩
  show Q v T.heap locs
  rw [eT]
  exact hQ
theorem GoW.retV {vm1 : Vm} {n : Nat} (X : Stand p l e R (s.setVm vm1) m args below meth c T locs cells slots) (hS : s.Since vm1 n) (hx : p.tables.exec = Jvm.exec) (hlocks : meth.locks = false) (hr : meth.sig.returnType = none) {pc : Nat} {Ls : Array Slot} (hd : decode c.code pc = .ok (.return_, 1))
    {h : Heap} (eT : T.heap = h) (hn : n ≤ h.size) (hQ : Q none h locs) (hc : cells ≤ kc) (hs : slots ≤ ks) : GoW p e below s Q kc ks T (mkF m pc Ls []) :=
  GoW.done X hS hlocks (fun _ => rfl) (fun fs k => X.returnOut hx hr hd k) eT hn hQ hc hs
theorem GoW.retN {vm1 : Vm} {n : Nat} (X : Stand p l e R (s.setVm vm1) m args below meth c T locs cells slots) (hS : s.Since vm1 n) (hx : p.tables.exec = Jvm.exec) (hlocks : meth.locks = false) {t : FieldType} (hr : meth.sig.returnType = some t) (ht : t = .boolean ∨ t = .byte ∨ t = .char ∨ t = .short) {pc : Nat} {Ls : Array Slot} {z : Int32} {st : List Value} (hd : decode c.code pc = .ok (.ireturn, 1))
    {h : Heap} (eT : T.heap = h) (hn : n ≤ h.size) (hQ : Q (some (.int (nar t z))) h locs) (hc : cells ≤ kc) (hs : slots ≤ ks) : GoW p e below s Q kc ks T (mkF m pc Ls (.int z :: st)) :=
  GoW.done X hS hlocks (fun q => by rw [hr] at q; cases q) (fun fs k => Jvm.RoadKit.retN X hx hr ht hd k) eT hn hQ hc hs
theorem GoW.retI {vm1 : Vm} {n : Nat} (X : Stand p l e R (s.setVm vm1) m args below meth c T locs cells slots) (hS : s.Since vm1 n) (hx : p.tables.exec = Jvm.exec) (hlocks : meth.locks = false) (hr : meth.sig.returnType = some .int) {pc : Nat} {Ls : Array Slot} {z : Int32} {st : List Value} (hd : decode c.code pc = .ok (.ireturn, 1))
    {h : Heap} (eT : T.heap = h) (hn : n ≤ h.size) (hQ : Q (some (.int z)) h locs) (hc : cells ≤ kc) (hs : slots ≤ ks) : GoW p e below s Q kc ks T (mkF m pc Ls (.int z :: st)) :=
  GoW.done X hS hlocks (fun q => by rw [hr] at q; cases q) (fun fs k => Jvm.RoadKit.retI X hx hr hd k) eT hn hQ hc hs
theorem GoW.retJ {vm1 : Vm} {n : Nat} (X : Stand p l e R (s.setVm vm1) m args below meth c T locs cells slots) (hS : s.Since vm1 n) (hx : p.tables.exec = Jvm.exec) (hlocks : meth.locks = false) (hr : meth.sig.returnType = some .long) {pc : Nat} {Ls : Array Slot} {z : Int64} {st : List Value} (hd : decode c.code pc = .ok (.lreturn, 1))
    {h : Heap} (eT : T.heap = h) (hn : n ≤ h.size) (hQ : Q (some (.long z)) h locs) (hc : cells ≤ kc) (hs : slots ≤ ks) : GoW p e below s Q kc ks T (mkF m pc Ls (.long z :: st)) :=
  GoW.done X hS hlocks (fun q => by rw [hr] at q; cases q) (fun fs k => retOut X hx hr rfl (Or.inr (Or.inl ⟨rfl, rfl, _, rfl⟩)) hd k) eT hn hQ hc hs
theorem GoW.retA {vm1 : Vm} {n : Nat} (X : Stand p l e R (s.setVm vm1) m args below meth c T locs cells slots) (hS : s.Since vm1 n) (hx : p.tables.exec = Jvm.exec) (hlocks : meth.locks = false) {t : FieldType} (hr : meth.sig.returnType = some t) (ht : t.isReference = true) {w : Value} (hw : w.isRef = true) {pc : Nat} {Ls : Array Slot} {st : List Value} (hd : decode c.code pc = .ok (.areturn, 1))
    {h : Heap} (eT : T.heap = h) (hn : n ≤ h.size) (hQ : Q (some w) h locs) (hc : cells ≤ kc) (hs : slots ≤ ks) : GoW p e below s Q kc ks T (mkF m pc Ls (w :: st)) :=
  GoW.done X hS hlocks (fun q => by rw [hr] at q; cases q) (fun fs k => retOut X hx hr (by cases t <;> first | (cases ht; done) | (rcases ref_cases hw with rfl | ⟨a, rfl⟩ <;> rfl)) (Or.inr (Or.inr (Or.inr (Or.inr ⟨rfl, ht, hw⟩)))) hd k) eT hn hQ hc hs
/-- .. and read -/
def GoH (p : Program) (e : Env) (below : List Frame) (s : State) (Q : (Option Value → Heap → List Loc → Prop) × (Vm → Heap → Prop)) (kc ks : Nat) (T : State) (g : JFrame) : Prop :=
  ∃ s₂ o, Steps p.tables e below (T.setTop g) s₂ ∧ s₂.status = .running ∧ Ended s₂ below o ∧ ∃ v L, o = .returned v ∧ Q.1 v s₂.heap L ∧ Q.2 s₂.vm s₂.heap ∧ ReturnedEndW s o s₂ L kc ks
theorem GoH.step {Q : (Option Value → Heap → List Loc → Prop) × (Vm → Heap → Prop)} (h : ∀ t, Steps p.tables e below (T'.setTop g') t → Steps p.tables e below (T.setTop g) t) (k : GoH p e below s Q kc ks T' g') : GoH p e below s Q kc ks T g := by
  obtain ⟨s₂, o, h1, r⟩ := k
  exact ⟨s₂, o, h _ h1, r⟩
theorem GoH.cast {Q : (Option Value → Heap → List Loc → Prop) × (Vm → Heap → Prop)} (q : g = g') (k : GoH p e below s Q kc ks T g') : GoH p e below s Q kc ks T g := q ▸ k
theorem GoH.done {Q : (Option Value → Heap → List Loc → Prop) × (Vm → Heap → Prop)} {vm1 : Vm} {n : Nat} (X : Stand p l e R (s.setVm vm1) m args below meth c T locs cells slots) (hS : s.Since vm1 n) (hlocks : meth.locks = false) {v : Option Value} (hv : meth.sig.returnType = none → v = none)
    (hret : ∀ fs, (∀ (f : JFrame) (acts : List Action), f.method = m → f.locked = none → f.entered = [] → (doReturn e (T.setTop f) acts v).1 = T.setFrames fs) → Steps p.tables e below (T.setTop g) (T.setFrames fs))
    {h : Heap} (eT : T.heap = h) (hn : n ≤ h.size) (hQ : Q.1 v h locs) (hY : Q.2 T.vm h) (hc : cells ≤ kc) (hs : slots ≤ ks) : GoH p e below s Q kc ks T g := by
  obtain ⟨fs, hr, hrun, hended, hW⟩ := X.leaveW hS (by rw [eT]; exact hn) hv hlocks
  refine ⟨_, _, hret fs hr, hrun, hended, _, _, rfl, ?_, ?_, hW.1, hW.2.1, hW.2.2.1, hW.2.2.2.mono hc hs⟩
  · show Q.1 v T.heap locs
    rw [eT]
    exact hQ
  · show Q.2 T.vm T.heap
    rw [eT]
    exact hY
theorem GoH.retV {Q : (Option Value → Heap → List Loc → Prop) × (Vm → Heap → Prop)} {vm1 : Vm} {n : Nat} (X : Stand p l e R (s.setVm vm1) m args below meth c T locs cells slots) (hS : s.Since vm1 n) (hx : p.tables.exec = Jvm.exec) (hlocks : meth.locks = false) (hr : meth.sig.returnType = none) {pc : Nat} {Ls : Array Slot} (hd : decode c.code pc = .ok (.return_, 1))
    {h : Heap} (eT : T.heap = h) (hn : n ≤ h.size) (hQ : Q.1 none h locs) (hY : Q.2 T.vm h) (hc : cells ≤ kc) (hs : slots ≤ ks) : GoH p e below s Q kc ks T (mkF m pc Ls []) :=
  GoH.done X hS hlocks (fun _ => rfl) (fun fs k => X.returnOut hx hr hd k) eT hn hQ hY hc hs
theorem GoH.retN {Q : (Option Value → Heap → List Loc → Prop) × (Vm → Heap → Prop)} {vm1 : Vm} {n : Nat} (X : Stand p l e R (s.setVm vm1) m args below meth c T locs cells slots) (hS : s.Since vm1 n) (hx : p.tables.exec = Jvm.exec) (hlocks : meth.locks = false) {t : FieldType} (hr : meth.sig.returnType = some t) (ht : t = .boolean ∨ t = .byte ∨ t = .char ∨ t = .short) {pc : Nat} {Ls : Array Slot} {z : Int32} {st : List Value} (hd : decode c.code pc = .ok (.ireturn, 1))
    {h : Heap} (eT : T.heap = h) (hn : n ≤ h.size) (hQ : Q.1 (some (.int (nar t z))) h locs) (hY : Q.2 T.vm h) (hc : cells ≤ kc) (hs : slots ≤ ks) : GoH p e below s Q kc ks T (mkF m pc Ls (.int z :: st)) :=
  GoH.done X hS hlocks (fun q => by rw [hr] at q; cases q) (fun fs k => Jvm.RoadKit.retN X hx hr ht hd k) eT hn hQ hY hc hs
theorem GoH.retI {Q : (Option Value → Heap → List Loc → Prop) × (Vm → Heap → Prop)} {vm1 : Vm} {n : Nat} (X : Stand p l e R (s.setVm vm1) m args below meth c T locs cells slots) (hS : s.Since vm1 n) (hx : p.tables.exec = Jvm.exec) (hlocks : meth.locks = false) (hr : meth.sig.returnType = some .int) {pc : Nat} {Ls : Array Slot} {z : Int32} {st : List Value} (hd : decode c.code pc = .ok (.ireturn, 1))
    {h : Heap} (eT : T.heap = h) (hn : n ≤ h.size) (hQ : Q.1 (some (.int z)) h locs) (hY : Q.2 T.vm h) (hc : cells ≤ kc) (hs : slots ≤ ks) : GoH p e below s Q kc ks T (mkF m pc Ls (.int z :: st)) :=
  GoH.done X hS hlocks (fun q => by rw [hr] at q; cases q) (fun fs k => Jvm.RoadKit.retI X hx hr hd k) eT hn hQ hY hc hs
theorem GoH.retJ {Q : (Option Value → Heap → List Loc → Prop) × (Vm → Heap → Prop)} {vm1 : Vm} {n : Nat} (X : Stand p l e R (s.setVm vm1) m args below meth c T locs cells slots) (hS : s.Since vm1 n) (hx : p.tables.exec = Jvm.exec) (hlocks : meth.locks = false) (hr : meth.sig.returnType = some .long) {pc : Nat} {Ls : Array Slot} {z : Int64} {st : List Value} (hd : decode c.code pc = .ok (.lreturn, 1))
    {h : Heap} (eT : T.heap = h) (hn : n ≤ h.size) (hQ : Q.1 (some (.long z)) h locs) (hY : Q.2 T.vm h) (hc : cells ≤ kc) (hs : slots ≤ ks) : GoH p e below s Q kc ks T (mkF m pc Ls (.long z :: st)) :=
  GoH.done X hS hlocks (fun q => by rw [hr] at q; cases q) (fun fs k => retOut X hx hr rfl (Or.inr (Or.inl ⟨rfl, rfl, _, rfl⟩)) hd k) eT hn hQ hY hc hs
theorem GoH.retA {Q : (Option Value → Heap → List Loc → Prop) × (Vm → Heap → Prop)} {vm1 : Vm} {n : Nat} (X : Stand p l e R (s.setVm vm1) m args below meth c T locs cells slots) (hS : s.Since vm1 n) (hx : p.tables.exec = Jvm.exec) (hlocks : meth.locks = false) {t : FieldType} (hr : meth.sig.returnType = some t) (ht : t.isReference = true) {w : Value} (hw : w.isRef = true) {pc : Nat} {Ls : Array Slot} {st : List Value} (hd : decode c.code pc = .ok (.areturn, 1))
    {h : Heap} (eT : T.heap = h) (hn : n ≤ h.size) (hQ : Q.1 (some w) h locs) (hY : Q.2 T.vm h) (hc : cells ≤ kc) (hs : slots ≤ ks) : GoH p e below s Q kc ks T (mkF m pc Ls (w :: st)) :=
  GoH.done X hS hlocks (fun q => by rw [hr] at q; cases q) (fun fs k => retOut X hx hr (by cases t <;> first | (cases ht; done) | (rcases ref_cases hw with rfl | ⟨a, rfl⟩ <;> rfl)) (Or.inr (Or.inr (Or.inr (Or.inr ⟨rfl, ht, hw⟩)))) hd k) eT hn hQ hY hc hs
end New
end Jvm.RoadKit
namespace Jvm.Pilot.@@N@@
open Jvm Jvm.ClassFile Sem Op Lib Jvm.Free Jvm.Stand Jvm.LawKit Jvm.RoadKit Bundle Jvm.Pilot.@@N@@.Jvm.D

section OwnH
variable {Z : State} {a0 : Array Value} {EL : List (String × Nat)} {vm vm1 vm2 : Vm} {h h1 h2 : Heap} {x : Addr} {k : ClassId} {z : Int32} {vs : List Value} {dv : Value} {ws : List Addr}
theorem own_chE (A : CHr Z EL vm h vm1 h1) (E : Ext h1 h2) : CHr Z EL vm h vm1 h2 := A.trans (CHr.ext E A.1)
theorem own_chW {a : Addr} {sl : Nat} {v : Value} (A : CHr Z EL vm h vm1 h1) (W : Wr h1 h2 a sl v) (S : Safe Z EL vm1 h1 a) : CHr Z EL vm h vm1 h2 := A.trans (CHr.wr W S A.1)
theorem own_chK (A : CHr Z EL vm h vm1 h1) (K : Keep h1 h2 ws) (S : ∀ x ∈ ws, Safe Z EL vm1 h1 x) : CHr Z EL vm h vm1 h2 := A.trans (CHr.keep K S A.1)
/-- no text of EL has n signs -/
def own_Not (Z : State) (a0 : Array Value) (EL : List (String × Nat)) (n : Nat) : Prop := ∀ p ∈ EL, ∃ text : String, (Cond.stringLink p.1 p.2 text).before a0 Z = true ∧ (∀ c ∈ text.toList, c.toNat < 256) ∧ text.toList.length ≠ n
theorem own_Not.nil {n : Nat} : own_Not Z a0 [] n := fun _ hp => by cases hp
theorem own_Not.cons {own text : String} {index n : Nat} (w : (Cond.stringLink own index text).before a0 Z = true) (ht : ∀ c ∈ text.toList, c.toNat < 256) (hn : text.toList.length ≠ n) (E : own_Not Z a0 EL n) : own_Not Z a0 ((own, index) :: EL) n := fun p hp => by
  rcases List.mem_cons.mp hp with rfl | hp
  · exact ⟨text, w, ht, hn⟩
  · exact E p hp
theorem own_safeL (hZ : Z.Warmed39 vm) (w : own_Not Z a0 EL z.toNatClampNeg) (F : Arv Z h x k .byte z vs dv) : Safe Z EL vm h x := fun B => by
  have hal := hZ.alike
  obtain ⟨cl, A, -, Sz, -⟩ := F
  obtain ⟨A1, ⟨-, kA, hkA, compA, hkindA⟩, -⟩ := A
  obtain ⟨kA', hkA', ekA⟩ := hal.2.2 _ _ hkA
  obtain ⟨p, hp, u, a, hb, q, -, F, rfl | rfl⟩ := B
  · cases (show h[q.sa]? = some q.sC from F.ha).symm.trans A1
    obtain ⟨cS, ⟨-, -, e⟩, ⟨kS, g1, g2, -⟩, -⟩ := F
    subst e
    cases (show vm.classes[q.sC.cls]? = some kS from g1).symm.trans hkA'
    rw [ekA] at g2
    have := hkindA.symm.trans g2
    cases this
  · cases (show h[q.sd]? = some q.SA from F.hd).symm.trans A1
    obtain ⟨cS, -, -, -, hsl⟩ := F
    obtain ⟨text, wl, ht, hn⟩ := w p hp
    obtain ⟨c, k', cf, i, hc', hk', hcf', hpool, hu, -⟩ := hb
    have wl' : (Cond.stringLink p.1 p.2 text).before a0 (Wst Z vm h) = true := mvS (s := { Z with heap := h }) hZ wl
    obtain ⟨k0, cf0, i0, units0, hk, hcf, hp0, hu0, hnm, htext, -⟩ := Cond.stringLink_spec (s := Wst Z vm h) hc' wl'
    cases hk'.symm.trans hk
    cases hcf'.symm.trans hcf
    cases hpool.symm.trans hp0
    cases hu.symm.trans hu0
    have hlat := Jvm.ClassFile.lat_of_text htext ht
    have eu := Jvm.ClassFile.units_of_text htext ht
    rw [hsl, SBG.stringBytes_lat hlat] at Sz
    have e1 : u.size = text.toList.length := by rw [← Array.length_toList, eu]; simp
    apply hn
    rw [← e1, ← Sz]
    simp
theorem own_safeN (hal : Z.vm.Alike vm) (F : Fld Z h x "java/lang/String" "value" "[B" .null) (E : Exa Z h x "java/lang/String") : Safe Z EL vm h x := fun B => by
  obtain ⟨cell, c, kk, i, f, e1, e2, e3, e4, e5, e6, e7⟩ := F
  obtain ⟨p, hp, u, a, hb, q, -, F, rfl | rfl⟩ := B
  · cases (show h[q.sa]? = some q.sC from F.ha).symm.trans e1
    obtain ⟨cS, ⟨⟨-, -, -, ⟨c1, k1, i1, f1, -⟩, -, -, -, v1, -⟩, -⟩, -⟩ := F
    obtain ⟨k3, e3', -⟩ := State.fieldFound?_setVm (s := Z) hal e2
    have e4' := (show (Wst Z vm h).fieldFound? _ _ _ = _ from e3').symm.trans f1
    simp only [Option.some.injEq, Prod.mk.injEq] at e4'
    rw [← e4'.2.2.2, e7] at v1
    simp at v1
  · cases (show h[q.sd]? = some q.SA from F.hd).symm.trans e1
    obtain ⟨cell2, k2, g1, g2, g3, g4, g5⟩ := E
    cases g1.symm.trans e1
    obtain ⟨cS, ⟨⟨-, -, -, -, -, -, -, -, -, -, ⟨-, kB, hkB, compB, hkindB⟩, -⟩, -, -⟩, -, hB, -⟩ := F
    obtain ⟨kz, q1, q2⟩ := Vm.findClass_spec hB
    rw [← hal.findClass] at g2
    obtain ⟨kz', q1', q2'⟩ := Vm.findClass_spec g2
    cases q1.symm.trans q1'
    exact absurd (q2.symm.trans q2') (by decide)
end OwnH
theorem own_nf {s : State} {args : Array Value} {C : String} {x y z : MethodName} (w : (Cond.selects C x z).before args s = true) (e : z.cls = y.cls) : NotFace s y := fun r0 h0 => by
  obtain ⟨c2, r2, m2, q1, q2, q3, q4, kP, hkP, hkPi⟩ := Cond.selects_spec w
  have f1 := findClass_of_methodNamed h0
  have f2 := findClass_of_methodNamed q3
  rw [e, f1] at f2
  have f3 : r0.cls = m2.cls := Option.some.inj f2
  exact ⟨kP, by rw [f3]; exact hkP, hkPi⟩
theorem own_same {s : State} {args : Array Value} {C : String} {x y z : MethodName} (wi : (Cond.instanceMethod y).before args s = true) (w : (Cond.selects C x z).before args s = true) (e : z.cls = y.cls) (hp : y.cls ≠ "java/lang/invoke/MethodHandle" ∧ y.cls ≠ "java/lang/invoke/VarHandle") : (Cond.sameMethod y.cls y.cls y.name y.desc).before args s = true := by
  obtain ⟨mk, methM, hnamed, -, -, -⟩ := Cond.instanceMethod_spec wi
  obtain ⟨kr, h1, h2⟩ := own_nf w e mk hnamed
  have f1 := findClass_of_methodNamed hnamed
  have hf := State.methodFound?_of_named hnamed hp
  simp [Cond.before, Cond.holds, Cond.value, f1, hf, hnamed, h1, h2]
theorem own_selP {s : State} {args : Array Value} {y : MethodName} {n : Nat} (wi : (Cond.instantiable y.cls n).before args s = true) (hp : s.PrivateAt y) (hinst : (Cond.instanceMethod y).before args s = true) (hy : y.cls ≠ "java/lang/invoke/MethodHandle" ∧ y.cls ≠ "java/lang/invoke/VarHandle") : (Cond.selects y.cls y y).before args s = true := by
  obtain ⟨c, k, h1, h2, -, h4, -⟩ := Cond.instantiable_spec wi
  exact Jvm.Stand.selects_self_of_private h1 h2 (by simp only [Bool.or_eq_false_iff] at h4; exact h4.1) hp hinst hy
theorem own_selQ {s : State} {args : Array Value} {y : MethodName} {C : String} (w : (Cond.selects C y y).before args s = true) (hp : s.PrivateAt y) (hinst : (Cond.instanceMethod y).before args s = true) (hy : y.cls ≠ "java/lang/invoke/MethodHandle" ∧ y.cls ≠ "java/lang/invoke/VarHandle") : (Cond.selects y.cls y y).before args s = true := by
  obtain ⟨mk, methM, hnamed, -, -, -⟩ := Cond.instanceMethod_spec hinst
  obtain ⟨kr, h1, h2⟩ := notFace_of_selects w mk hnamed
  exact Jvm.Stand.selects_self_of_private (findClass_of_methodNamed hnamed) h1 h2 hp hinst hy
def own_cp (vd : List Value) (dp : Int32) (vs : List Value) (sp nn : Int32) (dv : Value) : List Value := vd.take dp.toNatClampNeg ++ ((List.range nn.toNatClampNeg).map fun i => vs.getD (sp.toNatClampNeg + i) dv) ++ vd.drop (dp.toNatClampNeg + nn.toNatClampNeg)
def own_rep (n : Int32) (dv : Value) : List Value := List.replicate n.toNatClampNeg dv
theorem own_bit : ∀ i : Nat, i < 32 → (255#32).getLsbD i = decide (i < 8) := by decide
theorem own_rtb (y : Int32) : ((y &&& (255 : Int32)).toInt8.toInt32 &&& (255 : Int32)) = y &&& (255 : Int32) := by
  apply Int32.toBitVec_inj.mp
  rw [Int32.toBitVec_and, Int8.toBitVec_toInt32, Int32.toBitVec_toInt8, Int32.toBitVec_and]
  show (((y.toBitVec &&& 255#32).signExtend 8).signExtend 32) &&& 255#32 = y.toBitVec &&& 255#32
  apply BitVec.eq_of_getLsbD_eq
  intro i hi
  have hb := own_bit i hi
  rw [BitVec.getLsbD_and, BitVec.getLsbD_and, hb]
  by_cases h8 : i < 8
  · rw [BitVec.getLsbD_signExtend, BitVec.getLsbD_signExtend, BitVec.getLsbD_and, hb, if_pos h8, if_pos hi]
    simp only [h8, hi, decide_true, Bool.true_and, Bool.and_true]
  · simp [h8]
theorem own_rtb2 (y : Int32) : ((y &&& (255 : Int32)).toInt8.toInt32.toInt8.toInt32 &&& (255 : Int32)) = y &&& (255 : Int32) := by
  rw [show ∀ x : Int32, x.toInt8.toInt32.toInt8 = x.toInt8 from fun x => by simp]
  exact own_rtb y
theorem own_i4 (x : Int32) : (x &&& (3 : Int32)) = (0 : Int32) ∨ (x &&& (3 : Int32)) = (1 : Int32) ∨ (x &&& (3 : Int32)) = (2 : Int32) ∨ (x &&& (3 : Int32)) = (3 : Int32) := by
  have h := c_and x (3 : Int32) (by decide)
  have h2 : (x &&& (3 : Int32)).toInt ≤ 3 := h.2
  have h1 : 0 ≤ (x &&& (3 : Int32)).toInt := h.1
  simp only [← Int32.toInt_inj]
  show _ = 0 ∨ _ = 1 ∨ _ = 2 ∨ _ = 3
  omega
def own_ch (x k : Int32) : Int32 := nar .char ((((x.toUInt32 >>> (((8 : Int32) * k) &&& 31).toUInt32).toInt32) &&& (255 : Int32)).toUInt32.toUInt16.toUInt32.toInt32)
theorem own_cm (x k : Int32) : ∃ y, own_ch x k = (y &&& (255 : Int32)) := ⟨_, by rw [own_ch, i2c_mask]; exact i2c_mask _⟩
theorem own_c2 (x k : Int32) : ¬ (255 : Int32) < nar .char (own_ch x k) := by
  obtain ⟨y, e⟩ := own_cm x k
  rw [e, show nar .char (y &&& (255 : Int32)) = y &&& (255 : Int32) from i2c_mask y]
  have h := c_and y (255 : Int32) (by decide)
  have h2 : (y &&& (255 : Int32)).toInt ≤ 255 := h.2
  rw [Int32.lt_iff_toInt_lt]
  show ¬ (255 : Int) < _
  omega
theorem own_rt (x k : Int32) : (nar .char (nar .char (((nar .byte ((nar .char (own_ch x k)).toInt8.toInt32)) &&& (255 : Int32)).toUInt32.toUInt16.toUInt32.toInt32))) = own_ch x k := by
  obtain ⟨y, e⟩ := own_cm x k
  rw [e, show nar .char (y &&& (255 : Int32)) = y &&& (255 : Int32) from i2c_mask y]
  show nar .char (nar .char (((y &&& (255 : Int32)).toInt8.toInt32.toInt8.toInt32 &&& (255 : Int32)).toUInt32.toUInt16.toUInt32.toInt32)) = _
  rw [own_rtb2, i2c_mask, show nar .char (y &&& (255 : Int32)) = y &&& (255 : Int32) from i2c_mask y]
  exact i2c_mask y
theorem d29_0 : decode jdk_29_method_69_code 0 = .ok (.iload_n 0, 1) := by decide +kernel
theorem d29_1 : decode jdk_29_method_69_code 1 = .ok (.iload_n 1, 1) := by decide +kernel
theorem d29_2 : decode jdk_29_method_69_code 2 = .ok (.if_icmp .gt 7, 3) := by decide +kernel
theorem d29_9 : decode jdk_29_method_69_code 9 = .ok (.iload_n 1, 1) := by decide +kernel
theorem d29_10 : decode jdk_29_method_69_code 10 = .ok (.ireturn, 1) := by decide +kernel
theorem d7_0 : decode jdk_30_method_1_code 0 = .ok (.aload_n 0, 1) := by decide +kernel
theorem d7_1 : decode jdk_30_method_1_code 1 = .ok (.invokespecial 1, 3) := by decide +kernel
theorem d7_4 : decode jdk_30_method_1_code 4 = .ok (.return_, 1) := by decide +kernel
theorem d0_0 : decode jdk_41_method_11_code 0 = .ok (.iload_n 0, 1) := by decide +kernel
theorem d0_1 : decode jdk_41_method_11_code 1 = .ok (.ifCond .lt 8, 3) := by decide +kernel
theorem d0_4 : decode jdk_41_method_11_code 4 = .ok (.iload_n 0, 1) := by decide +kernel
theorem d0_5 : decode jdk_41_method_11_code 5 = .ok (.iload_n 1, 1) := by decide +kernel
theorem d0_6 : decode jdk_41_method_11_code 6 = .ok (.if_icmp .lt 10, 3) := by decide +kernel
theorem d0_16 : decode jdk_41_method_11_code 16 = .ok (.iload_n 0, 1) := by decide +kernel
theorem d0_17 : decode jdk_41_method_11_code 17 = .ok (.ireturn, 1) := by decide +kernel
theorem d18_0 : decode jdk_42_method_147_code 0 = .ok (.aload_n 0, 1) := by decide +kernel
theorem d18_1 : decode jdk_42_method_147_code 1 = .ok (.invokevirtual 335, 3) := by decide +kernel
theorem d18_4 : decode jdk_42_method_147_code 4 = .ok (.iload_n 3, 1) := by decide +kernel
theorem d18_5 : decode jdk_42_method_147_code 5 = .ok (.if_icmp .ne 23, 3) := by decide +kernel
theorem d18_8 : decode jdk_42_method_147_code 8 = .ok (.aload_n 0, 1) := by decide +kernel
theorem d18_9 : decode jdk_42_method_147_code 9 = .ok (.getfield 9, 3) := by decide +kernel
theorem d18_12 : decode jdk_42_method_147_code 12 = .ok (.iconst 0, 1) := by decide +kernel
theorem d18_13 : decode jdk_42_method_147_code 13 = .ok (.aload_n 1, 1) := by decide +kernel
theorem d18_14 : decode jdk_42_method_147_code 14 = .ok (.iload_n 2, 1) := by decide +kernel
theorem d18_15 : decode jdk_42_method_147_code 15 = .ok (.iload_n 3, 1) := by decide +kernel
theorem d18_16 : decode jdk_42_method_147_code 16 = .ok (.ishl, 1) := by decide +kernel
theorem d18_17 : decode jdk_42_method_147_code 17 = .ok (.aload_n 0, 1) := by decide +kernel
theorem d18_18 : decode jdk_42_method_147_code 18 = .ok (.getfield 9, 3) := by decide +kernel
theorem d18_21 : decode jdk_42_method_147_code 21 = .ok (.arraylength, 1) := by decide +kernel
theorem d18_22 : decode jdk_42_method_147_code 22 = .ok (.invokestatic 212, 3) := by decide +kernel
theorem d18_25 : decode jdk_42_method_147_code 25 = .ok (.goto 18, 3) := by decide +kernel
theorem d18_43 : decode jdk_42_method_147_code 43 = .ok (.return_, 1) := by decide +kernel
theorem d5_0 : decode jdk_42_method_149_code 0 = .ok (.aload_n 0, 1) := by decide +kernel
theorem d5_1 : decode jdk_42_method_149_code 1 = .ok (.invokespecial 1, 3) := by decide +kernel
theorem d5_4 : decode jdk_42_method_149_code 4 = .ok (.iload_n 3, 1) := by decide +kernel
theorem d5_5 : decode jdk_42_method_149_code 5 = .ok (.ifCond .ne 22, 3) := by decide +kernel
theorem d5_8 : decode jdk_42_method_149_code 8 = .ok (.aload_n 0, 1) := by decide +kernel
theorem d5_9 : decode jdk_42_method_149_code 9 = .ok (.ldc 7, 2) := by decide +kernel
theorem d5_11 : decode jdk_42_method_149_code 11 = .ok (.getfield 9, 3) := by decide +kernel
theorem d5_14 : decode jdk_42_method_149_code 14 = .ok (.putfield 9, 3) := by decide +kernel
theorem d5_17 : decode jdk_42_method_149_code 17 = .ok (.aload_n 0, 1) := by decide +kernel
theorem d5_18 : decode jdk_42_method_149_code 18 = .ok (.ldc 7, 2) := by decide +kernel
theorem d5_20 : decode jdk_42_method_149_code 20 = .ok (.getfield 15, 3) := by decide +kernel
theorem d5_23 : decode jdk_42_method_149_code 23 = .ok (.putfield 15, 3) := by decide +kernel
theorem d5_26 : decode jdk_42_method_149_code 26 = .ok (.return_, 1) := by decide +kernel
theorem d5_27 : decode jdk_42_method_149_code 27 = .ok (.getstatic 38, 3) := by decide +kernel
theorem d5_30 : decode jdk_42_method_149_code 30 = .ok (.ifCond .eq 28, 3) := by decide +kernel
theorem d5_33 : decode jdk_42_method_149_code 33 = .ok (.aload_n 1, 1) := by decide +kernel
theorem d5_34 : decode jdk_42_method_149_code 34 = .ok (.iload_n 2, 1) := by decide +kernel
theorem d5_35 : decode jdk_42_method_149_code 35 = .ok (.iload_n 3, 1) := by decide +kernel
theorem d5_36 : decode jdk_42_method_149_code 36 = .ok (.invokestatic 177, 3) := by decide +kernel
theorem d5_39 : decode jdk_42_method_149_code 39 = .ok (.astore 5, 2) := by decide +kernel
theorem d5_41 : decode jdk_42_method_149_code 41 = .ok (.aload_n 0, 1) := by decide +kernel
theorem d5_42 : decode jdk_42_method_149_code 42 = .ok (.aload 5, 2) := by decide +kernel
theorem d5_44 : decode jdk_42_method_149_code 44 = .ok (.iload_n 3, 1) := by decide +kernel
theorem d5_45 : decode jdk_42_method_149_code 45 = .ok (.invokestatic 47, 3) := by decide +kernel
theorem d5_48 : decode jdk_42_method_149_code 48 = .ok (.putfield 15, 3) := by decide +kernel
theorem d5_51 : decode jdk_42_method_149_code 51 = .ok (.aload_n 0, 1) := by decide +kernel
theorem d5_52 : decode jdk_42_method_149_code 52 = .ok (.aload 5, 2) := by decide +kernel
theorem d5_54 : decode jdk_42_method_149_code 54 = .ok (.putfield 9, 3) := by decide +kernel
theorem d5_57 : decode jdk_42_method_149_code 57 = .ok (.return_, 1) := by decide +kernel
theorem d21_0 : decode jdk_42_method_150_code 0 = .ok (.aload_n 0, 1) := by decide +kernel
theorem d21_1 : decode jdk_42_method_150_code 1 = .ok (.invokespecial 1, 3) := by decide +kernel
theorem d21_4 : decode jdk_42_method_150_code 4 = .ok (.aload_n 1, 1) := by decide +kernel
theorem d21_5 : decode jdk_42_method_150_code 5 = .ok (.invokevirtual 552, 3) := by decide +kernel
theorem d21_8 : decode jdk_42_method_150_code 8 = .ok (.astore_n 3, 1) := by decide +kernel
theorem d21_9 : decode jdk_42_method_150_code 9 = .ok (.aload_n 1, 1) := by decide +kernel
theorem d21_10 : decode jdk_42_method_150_code 10 = .ok (.invokevirtual 549, 3) := by decide +kernel
theorem d21_13 : decode jdk_42_method_150_code 13 = .ok (.istore 4, 2) := by decide +kernel
theorem d21_15 : decode jdk_42_method_150_code 15 = .ok (.aload_n 1, 1) := by decide +kernel
theorem d21_16 : decode jdk_42_method_150_code 16 = .ok (.invokevirtual 1047, 3) := by decide +kernel
theorem d21_19 : decode jdk_42_method_150_code 19 = .ok (.ifCond .eq 22, 3) := by decide +kernel
theorem d21_22 : decode jdk_42_method_150_code 22 = .ok (.aload_n 0, 1) := by decide +kernel
theorem d21_23 : decode jdk_42_method_150_code 23 = .ok (.iconst 0, 1) := by decide +kernel
theorem d21_24 : decode jdk_42_method_150_code 24 = .ok (.putfield 15, 3) := by decide +kernel
theorem d21_27 : decode jdk_42_method_150_code 27 = .ok (.aload_n 0, 1) := by decide +kernel
theorem d21_28 : decode jdk_42_method_150_code 28 = .ok (.aload_n 3, 1) := by decide +kernel
theorem d21_29 : decode jdk_42_method_150_code 29 = .ok (.iconst 0, 1) := by decide +kernel
theorem d21_30 : decode jdk_42_method_150_code 30 = .ok (.iload 4, 2) := by decide +kernel
theorem d21_32 : decode jdk_42_method_150_code 32 = .ok (.invokestatic 54, 3) := by decide +kernel
theorem d21_35 : decode jdk_42_method_150_code 35 = .ok (.putfield 9, 3) := by decide +kernel
theorem d21_38 : decode jdk_42_method_150_code 38 = .ok (.goto 59, 3) := by decide +kernel
theorem d21_97 : decode jdk_42_method_150_code 97 = .ok (.return_, 1) := by decide +kernel
theorem d14_0 : decode jdk_42_method_152_code 0 = .ok (.getstatic 38, 3) := by decide +kernel
theorem d14_3 : decode jdk_42_method_152_code 3 = .ok (.ifCond .eq 10, 3) := by decide +kernel
theorem d14_6 : decode jdk_42_method_152_code 6 = .ok (.aload_n 0, 1) := by decide +kernel
theorem d14_7 : decode jdk_42_method_152_code 7 = .ok (.getfield 15, 3) := by decide +kernel
theorem d14_10 : decode jdk_42_method_152_code 10 = .ok (.goto 4, 3) := by decide +kernel
theorem d14_14 : decode jdk_42_method_152_code 14 = .ok (.ireturn, 1) := by decide +kernel
theorem d32_0 : decode jdk_42_method_154_code 0 = .ok (.getstatic 38, 3) := by decide +kernel
theorem d32_3 : decode jdk_42_method_154_code 3 = .ok (.ifCond .eq 14, 3) := by decide +kernel
theorem d32_6 : decode jdk_42_method_154_code 6 = .ok (.aload_n 0, 1) := by decide +kernel
theorem d32_7 : decode jdk_42_method_154_code 7 = .ok (.getfield 15, 3) := by decide +kernel
theorem d32_10 : decode jdk_42_method_154_code 10 = .ok (.ifCond .ne 7, 3) := by decide +kernel
theorem d32_13 : decode jdk_42_method_154_code 13 = .ok (.iconst 1, 1) := by decide +kernel
theorem d32_14 : decode jdk_42_method_154_code 14 = .ok (.goto 4, 3) := by decide +kernel
theorem d32_18 : decode jdk_42_method_154_code 18 = .ok (.ireturn, 1) := by decide +kernel
theorem d1_0 : decode jdk_42_method_155_code 0 = .ok (.iload_n 0, 1) := by decide +kernel
theorem d1_1 : decode jdk_42_method_155_code 1 = .ok (.iload_n 1, 1) := by decide +kernel
theorem d1_2 : decode jdk_42_method_155_code 2 = .ok (.getstatic 1053, 3) := by decide +kernel
theorem d1_5 : decode jdk_42_method_155_code 5 = .ok (.invokestatic 1059, 3) := by decide +kernel
theorem d1_8 : decode jdk_42_method_155_code 8 = .ok (.pop, 1) := by decide +kernel
theorem d1_9 : decode jdk_42_method_155_code 9 = .ok (.return_, 1) := by decide +kernel
theorem d4_0 : decode jdk_42_method_3_code 0 = .ok (.aload_n 0, 1) := by decide +kernel
theorem d4_1 : decode jdk_42_method_3_code 1 = .ok (.aload_n 1, 1) := by decide +kernel
theorem d4_2 : decode jdk_42_method_3_code 2 = .ok (.iconst 0, 1) := by decide +kernel
theorem d4_3 : decode jdk_42_method_3_code 3 = .ok (.aload_n 1, 1) := by decide +kernel
theorem d4_4 : decode jdk_42_method_3_code 4 = .ok (.arraylength, 1) := by decide +kernel
theorem d4_5 : decode jdk_42_method_3_code 5 = .ok (.aconst_null, 1) := by decide +kernel
theorem d4_6 : decode jdk_42_method_3_code 6 = .ok (.invokespecial 27, 3) := by decide +kernel
theorem d4_9 : decode jdk_42_method_3_code 9 = .ok (.return_, 1) := by decide +kernel
theorem d20_0 : decode jdk_42_method_53_code 0 = .ok (.aload_n 0, 1) := by decide +kernel
theorem d20_1 : decode jdk_42_method_53_code 1 = .ok (.aload_n 1, 1) := by decide +kernel
theorem d20_2 : decode jdk_42_method_53_code 2 = .ok (.aconst_null, 1) := by decide +kernel
theorem d20_3 : decode jdk_42_method_53_code 3 = .ok (.invokespecial 489, 3) := by decide +kernel
theorem d20_6 : decode jdk_42_method_53_code 6 = .ok (.return_, 1) := by decide +kernel
theorem d13_0 : decode jdk_42_method_54_code 0 = .ok (.aload_n 0, 1) := by decide +kernel
theorem d13_1 : decode jdk_42_method_54_code 1 = .ok (.getfield 9, 3) := by decide +kernel
theorem d13_4 : decode jdk_42_method_54_code 4 = .ok (.arraylength, 1) := by decide +kernel
theorem d13_5 : decode jdk_42_method_54_code 5 = .ok (.aload_n 0, 1) := by decide +kernel
theorem d13_6 : decode jdk_42_method_54_code 6 = .ok (.invokevirtual 335, 3) := by decide +kernel
theorem d13_9 : decode jdk_42_method_54_code 9 = .ok (.ishr, 1) := by decide +kernel
theorem d13_10 : decode jdk_42_method_54_code 10 = .ok (.ireturn, 1) := by decide +kernel
theorem d31_0 : decode jdk_42_method_56_code 0 = .ok (.aload_n 0, 1) := by decide +kernel
theorem d31_1 : decode jdk_42_method_56_code 1 = .ok (.invokevirtual 492, 3) := by decide +kernel
theorem d31_4 : decode jdk_42_method_56_code 4 = .ok (.ifCond .eq 12, 3) := by decide +kernel
theorem d31_7 : decode jdk_42_method_56_code 7 = .ok (.aload_n 0, 1) := by decide +kernel
theorem d31_8 : decode jdk_42_method_56_code 8 = .ok (.getfield 9, 3) := by decide +kernel
theorem d31_11 : decode jdk_42_method_56_code 11 = .ok (.iload_n 1, 1) := by decide +kernel
theorem d31_12 : decode jdk_42_method_56_code 12 = .ok (.invokestatic 495, 3) := by decide +kernel
theorem d31_15 : decode jdk_42_method_56_code 15 = .ok (.ireturn, 1) := by decide +kernel
theorem d33_0 : decode jdk_43_method_2_code 0 = .ok (.iload_n 1, 1) := by decide +kernel
theorem d33_1 : decode jdk_43_method_2_code 1 = .ok (.aload_n 0, 1) := by decide +kernel
theorem d33_2 : decode jdk_43_method_2_code 2 = .ok (.arraylength, 1) := by decide +kernel
theorem d33_3 : decode jdk_43_method_2_code 3 = .ok (.invokestatic 9, 3) := by decide +kernel
theorem d33_6 : decode jdk_43_method_2_code 6 = .ok (.aload_n 0, 1) := by decide +kernel
theorem d33_7 : decode jdk_43_method_2_code 7 = .ok (.iload_n 1, 1) := by decide +kernel
theorem d33_8 : decode jdk_43_method_2_code 8 = .ok (.baload, 1) := by decide +kernel
theorem d33_9 : decode jdk_43_method_2_code 9 = .ok (.sipush 255, 3) := by decide +kernel
theorem d33_12 : decode jdk_43_method_2_code 12 = .ok (.iand, 1) := by decide +kernel
theorem d33_13 : decode jdk_43_method_2_code 13 = .ok (.i2c, 1) := by decide +kernel
theorem d33_14 : decode jdk_43_method_2_code 14 = .ok (.ireturn, 1) := by decide +kernel
theorem d36_0 : decode jdk_52_method_15_code 0 = .ok (.iload_n 1, 1) := by decide +kernel
theorem d36_1 : decode jdk_52_method_15_code 1 = .ok (.aload_n 0, 1) := by decide +kernel
theorem d36_2 : decode jdk_52_method_15_code 2 = .ok (.arraylength, 1) := by decide +kernel
theorem d36_3 : decode jdk_52_method_15_code 3 = .ok (.isub, 1) := by decide +kernel
theorem d36_4 : decode jdk_52_method_15_code 4 = .ok (.bipush 31, 2) := by decide +kernel
theorem d36_6 : decode jdk_52_method_15_code 6 = .ok (.iushr, 1) := by decide +kernel
theorem d36_7 : decode jdk_52_method_15_code 7 = .ok (.i2b, 1) := by decide +kernel
theorem d36_8 : decode jdk_52_method_15_code 8 = .ok (.ireturn, 1) := by decide +kernel
theorem d34_0 : decode jdk_52_method_16_code 0 = .ok (.iload_n 2, 1) := by decide +kernel
theorem d34_1 : decode jdk_52_method_16_code 1 = .ok (.newarray .byte, 2) := by decide +kernel
theorem d34_3 : decode jdk_52_method_16_code 3 = .ok (.astore_n 3, 1) := by decide +kernel
theorem d34_4 : decode jdk_52_method_16_code 4 = .ok (.aload_n 0, 1) := by decide +kernel
theorem d34_5 : decode jdk_52_method_16_code 5 = .ok (.iload_n 1, 1) := by decide +kernel
theorem d34_6 : decode jdk_52_method_16_code 6 = .ok (.aload_n 3, 1) := by decide +kernel
theorem d34_7 : decode jdk_52_method_16_code 7 = .ok (.iconst 0, 1) := by decide +kernel
theorem d34_8 : decode jdk_52_method_16_code 8 = .ok (.iload_n 2, 1) := by decide +kernel
theorem d34_9 : decode jdk_52_method_16_code 9 = .ok (.invokestatic 115, 3) := by decide +kernel
theorem d34_12 : decode jdk_52_method_16_code 12 = .ok (.istore 4, 2) := by decide +kernel
theorem d34_14 : decode jdk_52_method_16_code 14 = .ok (.iload 4, 2) := by decide +kernel
theorem d34_16 : decode jdk_52_method_16_code 16 = .ok (.iload_n 2, 1) := by decide +kernel
theorem d34_17 : decode jdk_52_method_16_code 17 = .ok (.if_icmp .eq 40, 3) := by decide +kernel
theorem d34_57 : decode jdk_52_method_16_code 57 = .ok (.aload_n 3, 1) := by decide +kernel
theorem d34_58 : decode jdk_52_method_16_code 58 = .ok (.areturn, 1) := by decide +kernel
theorem d35_0 : decode jdk_52_method_21_code 0 = .ok (.iconst 0, 1) := by decide +kernel
theorem d35_1 : decode jdk_52_method_21_code 1 = .ok (.istore 5, 2) := by decide +kernel
theorem d35_3 : decode jdk_52_method_21_code 3 = .ok (.iload 5, 2) := by decide +kernel
theorem d35_5 : decode jdk_52_method_21_code 5 = .ok (.iload 4, 2) := by decide +kernel
theorem d35_7 : decode jdk_52_method_21_code 7 = .ok (.if_icmp .ge 37, 3) := by decide +kernel
theorem d35_10 : decode jdk_52_method_21_code 10 = .ok (.aload_n 0, 1) := by decide +kernel
theorem d35_11 : decode jdk_52_method_21_code 11 = .ok (.iload_n 1, 1) := by decide +kernel
theorem d35_12 : decode jdk_52_method_21_code 12 = .ok (.caload, 1) := by decide +kernel
theorem d35_13 : decode jdk_52_method_21_code 13 = .ok (.istore 6, 2) := by decide +kernel
theorem d35_15 : decode jdk_52_method_21_code 15 = .ok (.iload 6, 2) := by decide +kernel
theorem d35_17 : decode jdk_52_method_21_code 17 = .ok (.sipush 255, 3) := by decide +kernel
theorem d35_20 : decode jdk_52_method_21_code 20 = .ok (.if_icmp .le 6, 3) := by decide +kernel
theorem d35_26 : decode jdk_52_method_21_code 26 = .ok (.aload_n 2, 1) := by decide +kernel
theorem d35_27 : decode jdk_52_method_21_code 27 = .ok (.iload_n 3, 1) := by decide +kernel
theorem d35_28 : decode jdk_52_method_21_code 28 = .ok (.iload 6, 2) := by decide +kernel
theorem d35_30 : decode jdk_52_method_21_code 30 = .ok (.i2b, 1) := by decide +kernel
theorem d35_31 : decode jdk_52_method_21_code 31 = .ok (.bastore, 1) := by decide +kernel
theorem d35_32 : decode jdk_52_method_21_code 32 = .ok (.iinc 1 1, 3) := by decide +kernel
theorem d35_35 : decode jdk_52_method_21_code 35 = .ok (.iinc 3 1, 3) := by decide +kernel
theorem d35_38 : decode jdk_52_method_21_code 38 = .ok (.iinc 5 1, 3) := by decide +kernel
theorem d35_41 : decode jdk_52_method_21_code 41 = .ok (.goto (-38), 3) := by decide +kernel
theorem d35_44 : decode jdk_52_method_21_code 44 = .ok (.iload 4, 2) := by decide +kernel
theorem d35_46 : decode jdk_52_method_21_code 46 = .ok (.ireturn, 1) := by decide +kernel
theorem d28_0 : decode jdk_65_method_131_code 0 = .ok (.iload_n 1, 1) := by decide +kernel
theorem d28_1 : decode jdk_65_method_131_code 1 = .ok (.iload_n 0, 1) := by decide +kernel
theorem d28_2 : decode jdk_65_method_131_code 2 = .ok (.if_icmp .ge 35, 3) := by decide +kernel
theorem d28_37 : decode jdk_65_method_131_code 37 = .ok (.return_, 1) := by decide +kernel
theorem d26_0 : decode jdk_65_method_132_code 0 = .ok (.iload_n 1, 1) := by decide +kernel
theorem d26_1 : decode jdk_65_method_132_code 1 = .ok (.ifCond .ne 9, 3) := by decide +kernel
theorem d26_4 : decode jdk_65_method_132_code 4 = .ok (.iload_n 2, 1) := by decide +kernel
theorem d26_5 : decode jdk_65_method_132_code 5 = .ok (.aload_n 0, 1) := by decide +kernel
theorem d26_6 : decode jdk_65_method_132_code 6 = .ok (.arraylength, 1) := by decide +kernel
theorem d26_7 : decode jdk_65_method_132_code 7 = .ok (.if_icmp .eq 10, 3) := by decide +kernel
theorem d26_10 : decode jdk_65_method_132_code 10 = .ok (.aload_n 0, 1) := by decide +kernel
theorem d26_11 : decode jdk_65_method_132_code 11 = .ok (.iload_n 1, 1) := by decide +kernel
theorem d26_12 : decode jdk_65_method_132_code 12 = .ok (.iload_n 2, 1) := by decide +kernel
theorem d26_13 : decode jdk_65_method_132_code 13 = .ok (.invokestatic 339, 3) := by decide +kernel
theorem d26_16 : decode jdk_65_method_132_code 16 = .ok (.areturn, 1) := by decide +kernel
theorem d27_0 : decode jdk_65_method_133_code 0 = .ok (.iload_n 1, 1) := by decide +kernel
theorem d27_1 : decode jdk_65_method_133_code 1 = .ok (.iload_n 2, 1) := by decide +kernel
theorem d27_2 : decode jdk_65_method_133_code 2 = .ok (.invokestatic 343, 3) := by decide +kernel
theorem d27_5 : decode jdk_65_method_133_code 5 = .ok (.iload_n 2, 1) := by decide +kernel
theorem d27_6 : decode jdk_65_method_133_code 6 = .ok (.iload_n 1, 1) := by decide +kernel
theorem d27_7 : decode jdk_65_method_133_code 7 = .ok (.isub, 1) := by decide +kernel
theorem d27_8 : decode jdk_65_method_133_code 8 = .ok (.istore_n 3, 1) := by decide +kernel
theorem d27_9 : decode jdk_65_method_133_code 9 = .ok (.iload_n 3, 1) := by decide +kernel
theorem d27_10 : decode jdk_65_method_133_code 10 = .ok (.newarray .byte, 2) := by decide +kernel
theorem d27_12 : decode jdk_65_method_133_code 12 = .ok (.astore 4, 2) := by decide +kernel
theorem d27_14 : decode jdk_65_method_133_code 14 = .ok (.aload_n 0, 1) := by decide +kernel
theorem d27_15 : decode jdk_65_method_133_code 15 = .ok (.iload_n 1, 1) := by decide +kernel
theorem d27_16 : decode jdk_65_method_133_code 16 = .ok (.aload 4, 2) := by decide +kernel
theorem d27_18 : decode jdk_65_method_133_code 18 = .ok (.iconst 0, 1) := by decide +kernel
theorem d27_19 : decode jdk_65_method_133_code 19 = .ok (.aload_n 0, 1) := by decide +kernel
theorem d27_20 : decode jdk_65_method_133_code 20 = .ok (.arraylength, 1) := by decide +kernel
theorem d27_21 : decode jdk_65_method_133_code 21 = .ok (.iload_n 1, 1) := by decide +kernel
theorem d27_22 : decode jdk_65_method_133_code 22 = .ok (.isub, 1) := by decide +kernel
theorem d27_23 : decode jdk_65_method_133_code 23 = .ok (.iload_n 3, 1) := by decide +kernel
theorem d27_24 : decode jdk_65_method_133_code 24 = .ok (.invokestatic 304, 3) := by decide +kernel
theorem d27_27 : decode jdk_65_method_133_code 27 = .ok (.invokestatic 150, 3) := by decide +kernel
theorem d27_30 : decode jdk_65_method_133_code 30 = .ok (.aload 4, 2) := by decide +kernel
theorem d27_32 : decode jdk_65_method_133_code 32 = .ok (.areturn, 1) := by decide +kernel
theorem d9_0 : decode jdk_67_method_1_code 0 = .ok (.aload_n 0, 1) := by decide +kernel
theorem d9_1 : decode jdk_67_method_1_code 1 = .ok (.bipush 16, 2) := by decide +kernel
theorem d9_3 : decode jdk_67_method_1_code 3 = .ok (.invokespecial 1, 3) := by decide +kernel
theorem d9_6 : decode jdk_67_method_1_code 6 = .ok (.return_, 1) := by decide +kernel
theorem d19_0 : decode jdk_67_method_42_code 0 = .ok (.new 18, 3) := by decide +kernel
theorem d19_3 : decode jdk_67_method_42_code 3 = .ok (.dup, 1) := by decide +kernel
theorem d19_4 : decode jdk_67_method_42_code 4 = .ok (.aload_n 0, 1) := by decide +kernel
theorem d19_5 : decode jdk_67_method_42_code 5 = .ok (.invokespecial 137, 3) := by decide +kernel
theorem d19_8 : decode jdk_67_method_42_code 8 = .ok (.areturn, 1) := by decide +kernel
theorem d11_0 : decode jdk_67_method_7_code 0 = .ok (.aload_n 0, 1) := by decide +kernel
theorem d11_1 : decode jdk_67_method_7_code 1 = .ok (.aload_n 1, 1) := by decide +kernel
theorem d11_2 : decode jdk_67_method_7_code 2 = .ok (.invokespecial 29, 3) := by decide +kernel
theorem d11_5 : decode jdk_67_method_7_code 5 = .ok (.pop, 1) := by decide +kernel
theorem d11_6 : decode jdk_67_method_7_code 6 = .ok (.aload_n 0, 1) := by decide +kernel
theorem d11_7 : decode jdk_67_method_7_code 7 = .ok (.areturn, 1) := by decide +kernel
theorem d23_0 : decode jdk_67_method_93_code 0 = .ok (.aload_n 0, 1) := by decide +kernel
theorem d23_1 : decode jdk_67_method_93_code 1 = .ok (.invokespecial 343, 3) := by decide +kernel
theorem d23_4 : decode jdk_67_method_93_code 4 = .ok (.ireturn, 1) := by decide +kernel
theorem d12_0 : decode jdk_68_method_22_code 0 = .ok (.aload_n 1, 1) := by decide +kernel
theorem d12_1 : decode jdk_68_method_22_code 1 = .ok (.ifnonnull 8, 3) := by decide +kernel
theorem d12_9 : decode jdk_68_method_22_code 9 = .ok (.aload_n 1, 1) := by decide +kernel
theorem d12_10 : decode jdk_68_method_22_code 10 = .ok (.invokevirtual 32, 3) := by decide +kernel
theorem d12_13 : decode jdk_68_method_22_code 13 = .ok (.istore_n 2, 1) := by decide +kernel
theorem d12_14 : decode jdk_68_method_22_code 14 = .ok (.aload_n 0, 1) := by decide +kernel
theorem d12_15 : decode jdk_68_method_22_code 15 = .ok (.aload_n 0, 1) := by decide +kernel
theorem d12_16 : decode jdk_68_method_22_code 16 = .ok (.getfield 79, 3) := by decide +kernel
theorem d12_19 : decode jdk_68_method_22_code 19 = .ok (.iload_n 2, 1) := by decide +kernel
theorem d12_20 : decode jdk_68_method_22_code 20 = .ok (.iadd, 1) := by decide +kernel
theorem d12_21 : decode jdk_68_method_22_code 21 = .ok (.invokevirtual 100, 3) := by decide +kernel
theorem d12_24 : decode jdk_68_method_22_code 24 = .ok (.aload_n 0, 1) := by decide +kernel
theorem d12_25 : decode jdk_68_method_22_code 25 = .ok (.aload_n 0, 1) := by decide +kernel
theorem d12_26 : decode jdk_68_method_22_code 26 = .ok (.getfield 79, 3) := by decide +kernel
theorem d12_29 : decode jdk_68_method_22_code 29 = .ok (.aload_n 1, 1) := by decide +kernel
theorem d12_30 : decode jdk_68_method_22_code 30 = .ok (.invokevirtual 208, 3) := by decide +kernel
theorem d12_33 : decode jdk_68_method_22_code 33 = .ok (.aload_n 0, 1) := by decide +kernel
theorem d12_34 : decode jdk_68_method_22_code 34 = .ok (.dup, 1) := by decide +kernel
theorem d12_35 : decode jdk_68_method_22_code 35 = .ok (.getfield 79, 3) := by decide +kernel
theorem d12_38 : decode jdk_68_method_22_code 38 = .ok (.iload_n 2, 1) := by decide +kernel
theorem d12_39 : decode jdk_68_method_22_code 39 = .ok (.iadd, 1) := by decide +kernel
theorem d12_40 : decode jdk_68_method_22_code 40 = .ok (.putfield 79, 3) := by decide +kernel
theorem d12_43 : decode jdk_68_method_22_code 43 = .ok (.aload_n 0, 1) := by decide +kernel
theorem d12_44 : decode jdk_68_method_22_code 44 = .ok (.areturn, 1) := by decide +kernel
theorem d10_0 : decode jdk_68_method_2_code 0 = .ok (.aload_n 0, 1) := by decide +kernel
theorem d10_1 : decode jdk_68_method_2_code 1 = .ok (.invokespecial 3, 3) := by decide +kernel
theorem d10_4 : decode jdk_68_method_2_code 4 = .ok (.getstatic 18, 3) := by decide +kernel
theorem d10_7 : decode jdk_68_method_2_code 7 = .ok (.ifCond .eq 18, 3) := by decide +kernel
theorem d10_10 : decode jdk_68_method_2_code 10 = .ok (.aload_n 0, 1) := by decide +kernel
theorem d10_11 : decode jdk_68_method_2_code 11 = .ok (.iload_n 1, 1) := by decide +kernel
theorem d10_12 : decode jdk_68_method_2_code 12 = .ok (.newarray .byte, 2) := by decide +kernel
theorem d10_14 : decode jdk_68_method_2_code 14 = .ok (.putfield 15, 3) := by decide +kernel
theorem d10_17 : decode jdk_68_method_2_code 17 = .ok (.aload_n 0, 1) := by decide +kernel
theorem d10_18 : decode jdk_68_method_2_code 18 = .ok (.iconst 0, 1) := by decide +kernel
theorem d10_19 : decode jdk_68_method_2_code 19 = .ok (.putfield 22, 3) := by decide +kernel
theorem d10_22 : decode jdk_68_method_2_code 22 = .ok (.goto 16, 3) := by decide +kernel
theorem d10_38 : decode jdk_68_method_2_code 38 = .ok (.return_, 1) := by decide +kernel
theorem d22_0 : decode jdk_68_method_64_code 0 = .ok (.aload_n 0, 1) := by decide +kernel
theorem d22_1 : decode jdk_68_method_64_code 1 = .ok (.getfield 15, 3) := by decide +kernel
theorem d22_4 : decode jdk_68_method_64_code 4 = .ok (.areturn, 1) := by decide +kernel
theorem d25_0 : decode jdk_68_method_68_code 0 = .ok (.getstatic 18, 3) := by decide +kernel
theorem d25_3 : decode jdk_68_method_68_code 3 = .ok (.ifCond .eq 14, 3) := by decide +kernel
theorem d25_6 : decode jdk_68_method_68_code 6 = .ok (.aload_n 0, 1) := by decide +kernel
theorem d25_7 : decode jdk_68_method_68_code 7 = .ok (.getfield 22, 3) := by decide +kernel
theorem d25_10 : decode jdk_68_method_68_code 10 = .ok (.ifCond .ne 7, 3) := by decide +kernel
theorem d25_13 : decode jdk_68_method_68_code 13 = .ok (.iconst 1, 1) := by decide +kernel
theorem d25_14 : decode jdk_68_method_68_code 14 = .ok (.goto 4, 3) := by decide +kernel
theorem d25_18 : decode jdk_68_method_68_code 18 = .ok (.ireturn, 1) := by decide +kernel
theorem d24_0 : decode jdk_68_method_6_code 0 = .ok (.aload_n 0, 1) := by decide +kernel
theorem d24_1 : decode jdk_68_method_6_code 1 = .ok (.getfield 79, 3) := by decide +kernel
theorem d24_4 : decode jdk_68_method_6_code 4 = .ok (.ireturn, 1) := by decide +kernel
theorem d17_0 : decode jdk_68_method_71_code 0 = .ok (.getstatic 18, 3) := by decide +kernel
theorem d17_3 : decode jdk_68_method_71_code 3 = .ok (.ifCond .eq 18, 3) := by decide +kernel
theorem d17_6 : decode jdk_68_method_71_code 6 = .ok (.aload_n 0, 1) := by decide +kernel
theorem d17_7 : decode jdk_68_method_71_code 7 = .ok (.getfield 22, 3) := by decide +kernel
theorem d17_10 : decode jdk_68_method_71_code 10 = .ok (.aload_n 1, 1) := by decide +kernel
theorem d17_11 : decode jdk_68_method_71_code 11 = .ok (.invokevirtual 40, 3) := by decide +kernel
theorem d17_14 : decode jdk_68_method_71_code 14 = .ok (.if_icmp .eq 7, 3) := by decide +kernel
theorem d17_21 : decode jdk_68_method_71_code 21 = .ok (.return_, 1) := by decide +kernel
theorem d16_0 : decode jdk_68_method_73_code 0 = .ok (.aload_n 0, 1) := by decide +kernel
theorem d16_1 : decode jdk_68_method_73_code 1 = .ok (.aload_n 2, 1) := by decide +kernel
theorem d16_2 : decode jdk_68_method_73_code 2 = .ok (.invokevirtual 397, 3) := by decide +kernel
theorem d16_5 : decode jdk_68_method_73_code 5 = .ok (.aload_n 2, 1) := by decide +kernel
theorem d16_6 : decode jdk_68_method_73_code 6 = .ok (.aload_n 0, 1) := by decide +kernel
theorem d16_7 : decode jdk_68_method_73_code 7 = .ok (.getfield 15, 3) := by decide +kernel
theorem d16_10 : decode jdk_68_method_73_code 10 = .ok (.iload_n 1, 1) := by decide +kernel
theorem d16_11 : decode jdk_68_method_73_code 11 = .ok (.aload_n 0, 1) := by decide +kernel
theorem d16_12 : decode jdk_68_method_73_code 12 = .ok (.getfield 22, 3) := by decide +kernel
theorem d16_15 : decode jdk_68_method_73_code 15 = .ok (.invokevirtual 399, 3) := by decide +kernel
theorem d16_18 : decode jdk_68_method_73_code 18 = .ok (.return_, 1) := by decide +kernel
theorem d15_0 : decode jdk_68_method_9_code 0 = .ok (.aload_n 0, 1) := by decide +kernel
theorem d15_1 : decode jdk_68_method_9_code 1 = .ok (.getfield 15, 3) := by decide +kernel
theorem d15_4 : decode jdk_68_method_9_code 4 = .ok (.arraylength, 1) := by decide +kernel
theorem d15_5 : decode jdk_68_method_9_code 5 = .ok (.aload_n 0, 1) := by decide +kernel
theorem d15_6 : decode jdk_68_method_9_code 6 = .ok (.getfield 22, 3) := by decide +kernel
theorem d15_9 : decode jdk_68_method_9_code 9 = .ok (.ishr, 1) := by decide +kernel
theorem d15_10 : decode jdk_68_method_9_code 10 = .ok (.istore_n 2, 1) := by decide +kernel
theorem d15_11 : decode jdk_68_method_9_code 11 = .ok (.iload_n 1, 1) := by decide +kernel
theorem d15_12 : decode jdk_68_method_9_code 12 = .ok (.iload_n 2, 1) := by decide +kernel
theorem d15_13 : decode jdk_68_method_9_code 13 = .ok (.isub, 1) := by decide +kernel
theorem d15_14 : decode jdk_68_method_9_code 14 = .ok (.ifCond .le 24, 3) := by decide +kernel
theorem d15_38 : decode jdk_68_method_9_code 38 = .ok (.return_, 1) := by decide +kernel
theorem d30_0 : decode method_3_code 0 = .ok (.iload_n 1, 1) := by decide +kernel
theorem d30_1 : decode method_3_code 1 = .ok (.iload_n 2, 1) := by decide +kernel
theorem d30_2 : decode method_3_code 2 = .ok (.if_icmp .lt 5, 3) := by decide +kernel
theorem d30_5 : decode method_3_code 5 = .ok (.iconst 1, 1) := by decide +kernel
theorem d30_6 : decode method_3_code 6 = .ok (.ireturn, 1) := by decide +kernel
theorem d30_7 : decode method_3_code 7 = .ok (.iload_n 1, 1) := by decide +kernel
theorem d30_8 : decode method_3_code 8 = .ok (.iload_n 3, 1) := by decide +kernel
theorem d30_9 : decode method_3_code 9 = .ok (.if_icmp .ge 14, 3) := by decide +kernel
theorem d30_12 : decode method_3_code 12 = .ok (.iload 4, 2) := by decide +kernel
theorem d30_14 : decode method_3_code 14 = .ok (.iload_n 1, 1) := by decide +kernel
theorem d30_15 : decode method_3_code 15 = .ok (.invokestatic 32, 3) := by decide +kernel
theorem d30_18 : decode method_3_code 18 = .ok (.istore 6, 2) := by decide +kernel
theorem d30_20 : decode method_3_code 20 = .ok (.goto 27, 3) := by decide +kernel
theorem d30_23 : decode method_3_code 23 = .ok (.iload_n 1, 1) := by decide +kernel
theorem d30_24 : decode method_3_code 24 = .ok (.iload_n 3, 1) := by decide +kernel
theorem d30_25 : decode method_3_code 25 = .ok (.if_icmp .ne 10, 3) := by decide +kernel
theorem d30_28 : decode method_3_code 28 = .ok (.bipush 58, 2) := by decide +kernel
theorem d30_30 : decode method_3_code 30 = .ok (.istore 6, 2) := by decide +kernel
theorem d30_32 : decode method_3_code 32 = .ok (.goto 15, 3) := by decide +kernel
theorem d30_35 : decode method_3_code 35 = .ok (.iload 5, 2) := by decide +kernel
theorem d30_37 : decode method_3_code 37 = .ok (.iload_n 1, 1) := by decide +kernel
theorem d30_38 : decode method_3_code 38 = .ok (.iload_n 3, 1) := by decide +kernel
theorem d30_39 : decode method_3_code 39 = .ok (.isub, 1) := by decide +kernel
theorem d30_40 : decode method_3_code 40 = .ok (.iconst 1, 1) := by decide +kernel
theorem d30_41 : decode method_3_code 41 = .ok (.isub, 1) := by decide +kernel
theorem d30_42 : decode method_3_code 42 = .ok (.invokestatic 32, 3) := by decide +kernel
theorem d30_45 : decode method_3_code 45 = .ok (.istore 6, 2) := by decide +kernel
theorem d30_47 : decode method_3_code 47 = .ok (.aload_n 0, 1) := by decide +kernel
theorem d30_48 : decode method_3_code 48 = .ok (.iload_n 1, 1) := by decide +kernel
theorem d30_49 : decode method_3_code 49 = .ok (.invokevirtual 36, 3) := by decide +kernel
theorem d30_52 : decode method_3_code 52 = .ok (.iload 6, 2) := by decide +kernel
theorem d30_54 : decode method_3_code 54 = .ok (.if_icmp .ne 7, 3) := by decide +kernel
theorem d30_57 : decode method_3_code 57 = .ok (.iconst 1, 1) := by decide +kernel
theorem d30_58 : decode method_3_code 58 = .ok (.goto 4, 3) := by decide +kernel
theorem d30_62 : decode method_3_code 62 = .ok (.ireturn, 1) := by decide +kernel
theorem d2_0 : decode method_4_code 0 = .ok (.iload_n 0, 1) := by decide +kernel
theorem d2_1 : decode method_4_code 1 = .ok (.bipush 8, 2) := by decide +kernel
theorem d2_3 : decode method_4_code 3 = .ok (.iload_n 1, 1) := by decide +kernel
theorem d2_4 : decode method_4_code 4 = .ok (.imul, 1) := by decide +kernel
theorem d2_5 : decode method_4_code 5 = .ok (.iushr, 1) := by decide +kernel
theorem d2_6 : decode method_4_code 6 = .ok (.sipush 255, 3) := by decide +kernel
theorem d2_9 : decode method_4_code 9 = .ok (.iand, 1) := by decide +kernel
theorem d2_10 : decode method_4_code 10 = .ok (.i2c, 1) := by decide +kernel
theorem d2_11 : decode method_4_code 11 = .ok (.ireturn, 1) := by decide +kernel
theorem d3_0 : decode method_5_code 0 = .ok (.iload_n 1, 1) := by decide +kernel
theorem d3_1 : decode method_5_code 1 = .ok (.ifCond .ne 14, 3) := by decide +kernel
theorem d3_4 : decode method_5_code 4 = .ok (.new 23, 3) := by decide +kernel
theorem d3_7 : decode method_5_code 7 = .ok (.dup, 1) := by decide +kernel
theorem d3_8 : decode method_5_code 8 = .ok (.iconst 0, 1) := by decide +kernel
theorem d3_9 : decode method_5_code 9 = .ok (.newarray .char, 2) := by decide +kernel
theorem d3_11 : decode method_5_code 11 = .ok (.invokespecial 40, 3) := by decide +kernel
theorem d3_14 : decode method_5_code 14 = .ok (.areturn, 1) := by decide +kernel
theorem d3_15 : decode method_5_code 15 = .ok (.iload_n 1, 1) := by decide +kernel
theorem d3_16 : decode method_5_code 16 = .ok (.iconst 1, 1) := by decide +kernel
theorem d3_17 : decode method_5_code 17 = .ok (.if_icmp .ne 22, 3) := by decide +kernel
theorem d3_20 : decode method_5_code 20 = .ok (.new 23, 3) := by decide +kernel
theorem d3_23 : decode method_5_code 23 = .ok (.dup, 1) := by decide +kernel
theorem d3_24 : decode method_5_code 24 = .ok (.iconst 1, 1) := by decide +kernel
theorem d3_25 : decode method_5_code 25 = .ok (.newarray .char, 2) := by decide +kernel
theorem d3_27 : decode method_5_code 27 = .ok (.dup, 1) := by decide +kernel
theorem d3_28 : decode method_5_code 28 = .ok (.iconst 0, 1) := by decide +kernel
theorem d3_29 : decode method_5_code 29 = .ok (.iload_n 0, 1) := by decide +kernel
theorem d3_30 : decode method_5_code 30 = .ok (.iconst 0, 1) := by decide +kernel
theorem d3_31 : decode method_5_code 31 = .ok (.invokestatic 32, 3) := by decide +kernel
theorem d3_34 : decode method_5_code 34 = .ok (.castore, 1) := by decide +kernel
theorem d3_35 : decode method_5_code 35 = .ok (.invokespecial 40, 3) := by decide +kernel
theorem d3_38 : decode method_5_code 38 = .ok (.areturn, 1) := by decide +kernel
theorem d3_39 : decode method_5_code 39 = .ok (.iload_n 1, 1) := by decide +kernel
theorem d3_40 : decode method_5_code 40 = .ok (.iconst 2, 1) := by decide +kernel
theorem d3_41 : decode method_5_code 41 = .ok (.if_icmp .ne 30, 3) := by decide +kernel
theorem d3_44 : decode method_5_code 44 = .ok (.new 23, 3) := by decide +kernel
theorem d3_47 : decode method_5_code 47 = .ok (.dup, 1) := by decide +kernel
theorem d3_48 : decode method_5_code 48 = .ok (.iconst 2, 1) := by decide +kernel
theorem d3_49 : decode method_5_code 49 = .ok (.newarray .char, 2) := by decide +kernel
theorem d3_51 : decode method_5_code 51 = .ok (.dup, 1) := by decide +kernel
theorem d3_52 : decode method_5_code 52 = .ok (.iconst 0, 1) := by decide +kernel
theorem d3_53 : decode method_5_code 53 = .ok (.iload_n 0, 1) := by decide +kernel
theorem d3_54 : decode method_5_code 54 = .ok (.iconst 0, 1) := by decide +kernel
theorem d3_55 : decode method_5_code 55 = .ok (.invokestatic 32, 3) := by decide +kernel
theorem d3_58 : decode method_5_code 58 = .ok (.castore, 1) := by decide +kernel
theorem d3_59 : decode method_5_code 59 = .ok (.dup, 1) := by decide +kernel
theorem d3_60 : decode method_5_code 60 = .ok (.iconst 1, 1) := by decide +kernel
theorem d3_61 : decode method_5_code 61 = .ok (.iload_n 0, 1) := by decide +kernel
theorem d3_62 : decode method_5_code 62 = .ok (.iconst 1, 1) := by decide +kernel
theorem d3_63 : decode method_5_code 63 = .ok (.invokestatic 32, 3) := by decide +kernel
theorem d3_66 : decode method_5_code 66 = .ok (.castore, 1) := by decide +kernel
theorem d3_67 : decode method_5_code 67 = .ok (.invokespecial 40, 3) := by decide +kernel
theorem d3_70 : decode method_5_code 70 = .ok (.areturn, 1) := by decide +kernel
theorem d3_71 : decode method_5_code 71 = .ok (.new 23, 3) := by decide +kernel
theorem d3_74 : decode method_5_code 74 = .ok (.dup, 1) := by decide +kernel
theorem d3_75 : decode method_5_code 75 = .ok (.iconst 3, 1) := by decide +kernel
theorem d3_76 : decode method_5_code 76 = .ok (.newarray .char, 2) := by decide +kernel
theorem d3_78 : decode method_5_code 78 = .ok (.dup, 1) := by decide +kernel
theorem d3_79 : decode method_5_code 79 = .ok (.iconst 0, 1) := by decide +kernel
theorem d3_80 : decode method_5_code 80 = .ok (.iload_n 0, 1) := by decide +kernel
theorem d3_81 : decode method_5_code 81 = .ok (.iconst 0, 1) := by decide +kernel
theorem d3_82 : decode method_5_code 82 = .ok (.invokestatic 32, 3) := by decide +kernel
theorem d3_85 : decode method_5_code 85 = .ok (.castore, 1) := by decide +kernel
theorem d3_86 : decode method_5_code 86 = .ok (.dup, 1) := by decide +kernel
theorem d3_87 : decode method_5_code 87 = .ok (.iconst 1, 1) := by decide +kernel
theorem d3_88 : decode method_5_code 88 = .ok (.iload_n 0, 1) := by decide +kernel
theorem d3_89 : decode method_5_code 89 = .ok (.iconst 1, 1) := by decide +kernel
theorem d3_90 : decode method_5_code 90 = .ok (.invokestatic 32, 3) := by decide +kernel
theorem d3_93 : decode method_5_code 93 = .ok (.castore, 1) := by decide +kernel
theorem d3_94 : decode method_5_code 94 = .ok (.dup, 1) := by decide +kernel
theorem d3_95 : decode method_5_code 95 = .ok (.iconst 2, 1) := by decide +kernel
theorem d3_96 : decode method_5_code 96 = .ok (.iload_n 0, 1) := by decide +kernel
theorem d3_97 : decode method_5_code 97 = .ok (.iconst 2, 1) := by decide +kernel
theorem d3_98 : decode method_5_code 98 = .ok (.invokestatic 32, 3) := by decide +kernel
theorem d3_101 : decode method_5_code 101 = .ok (.castore, 1) := by decide +kernel
theorem d3_102 : decode method_5_code 102 = .ok (.invokespecial 40, 3) := by decide +kernel
theorem d3_105 : decode method_5_code 105 = .ok (.areturn, 1) := by decide +kernel
theorem d6_0 : decode prog_36_method_1_code 0 = .ok (.aload_n 0, 1) := by decide +kernel
theorem d6_1 : decode prog_36_method_1_code 1 = .ok (.invokespecial 1, 3) := by decide +kernel
theorem d6_4 : decode prog_36_method_1_code 4 = .ok (.aload_n 0, 1) := by decide +kernel
theorem d6_5 : decode prog_36_method_1_code 5 = .ok (.aload_n 1, 1) := by decide +kernel
theorem d6_6 : decode prog_36_method_1_code 6 = .ok (.putfield 7, 3) := by decide +kernel
theorem d6_9 : decode prog_36_method_1_code 9 = .ok (.aload_n 0, 1) := by decide +kernel
theorem d6_10 : decode prog_36_method_1_code 10 = .ok (.aload_n 2, 1) := by decide +kernel
theorem d6_11 : decode prog_36_method_1_code 11 = .ok (.putfield 13, 3) := by decide +kernel
theorem d6_14 : decode prog_36_method_1_code 14 = .ok (.return_, 1) := by decide +kernel
theorem d8_0 : decode prog_36_method_2_code 0 = .ok (.new 16, 3) := by decide +kernel
theorem d8_3 : decode prog_36_method_2_code 3 = .ok (.dup, 1) := by decide +kernel
theorem d8_4 : decode prog_36_method_2_code 4 = .ok (.invokespecial 18, 3) := by decide +kernel
theorem d8_7 : decode prog_36_method_2_code 7 = .ok (.aload_n 0, 1) := by decide +kernel
theorem d8_8 : decode prog_36_method_2_code 8 = .ok (.getfield 7, 3) := by decide +kernel
theorem d8_11 : decode prog_36_method_2_code 11 = .ok (.invokevirtual 19, 3) := by decide +kernel
theorem d8_14 : decode prog_36_method_2_code 14 = .ok (.ldc 23, 2) := by decide +kernel
theorem d8_16 : decode prog_36_method_2_code 16 = .ok (.invokevirtual 19, 3) := by decide +kernel
theorem d8_19 : decode prog_36_method_2_code 19 = .ok (.aload_n 0, 1) := by decide +kernel
theorem d8_20 : decode prog_36_method_2_code 20 = .ok (.getfield 13, 3) := by decide +kernel
theorem d8_23 : decode prog_36_method_2_code 23 = .ok (.invokevirtual 19, 3) := by decide +kernel
theorem d8_26 : decode prog_36_method_2_code 26 = .ok (.invokevirtual 25, 3) := by decide +kernel
theorem d8_29 : decode prog_36_method_2_code 29 = .ok (.areturn, 1) := by decide +kernel
theorem tw0 {Z : State} {a0 : Array Value} (hw : ∀ d ∈ tables_1, d.before a0 Z = true) : (Jvm.Cond.methodLink "com/example/grantgraph/grantgraph/store/ObjectRefToStringPinLaw" (7 : Nat) ({ cls := "com/example/grantgraph/grantgraph/store/ObjectRefToStringPinLaw", name := "make", desc := "(II)Ljava/lang/String;" } : Jvm.MethodName)).before a0 Z = true := hw _ (List.mem_of_getElem? (i := 0) rfl)
theorem tw1 {Z : State} {a0 : Array Value} (hw : ∀ d ∈ tables_1, d.before a0 Z = true) : (Jvm.Cond.static ({ cls := "com/example/grantgraph/grantgraph/store/ObjectRefToStringPinLaw", name := "make", desc := "(II)Ljava/lang/String;" } : Jvm.MethodName)).before a0 Z = true := hw _ (List.mem_of_getElem? (i := 1) rfl)
theorem tw2 {Z : State} {a0 : Array Value} (hw : ∀ d ∈ tables_1, d.before a0 Z = true) : (Jvm.Cond.initialized "com/example/grantgraph/grantgraph/store/ObjectRefToStringPinLaw").before a0 Z = true := hw _ (List.mem_of_getElem? (i := 2) rfl)
theorem tw3 {Z : State} {a0 : Array Value} (hw : ∀ d ∈ tables_1, d.before a0 Z = true) : (Jvm.Cond.code ({ cls := "com/example/grantgraph/grantgraph/store/ObjectRefToStringPinLaw", name := "make", desc := "(II)Ljava/lang/String;" } : Jvm.MethodName) method_5_code (2 : Nat) (Option.some (Jvm.ClassFile.FieldType.object "java/lang/String"))).before a0 Z = true := hw _ (List.mem_of_getElem? (i := 3) rfl)
theorem tw4 {Z : State} {a0 : Array Value} (hw : ∀ d ∈ tables_1, d.before a0 Z = true) : (Jvm.Cond.classLink "com/example/grantgraph/grantgraph/store/ObjectRefToStringPinLaw" (23 : Nat) "java/lang/String").before a0 Z = true := hw _ (List.mem_of_getElem? (i := 4) rfl)
theorem tw5 {Z : State} {a0 : Array Value} (hw : ∀ d ∈ tables_1, d.before a0 Z = true) : (Jvm.Cond.instantiable "java/lang/String" (4 : Nat)).before a0 Z = true := hw _ (List.mem_of_getElem? (i := 5) rfl)
theorem tw6 {Z : State} {a0 : Array Value} (hw : ∀ d ∈ tables_1, d.before a0 Z = true) : (Jvm.Cond.initialized "java/lang/String").before a0 Z = true := hw _ (List.mem_of_getElem? (i := 6) rfl)
theorem tw7 {Z : State} {a0 : Array Value} (hw : ∀ d ∈ tables_1, d.before a0 Z = true) : (Jvm.Cond.arrayClass Jvm.ClassFile.FieldType.char).before a0 Z = true := hw _ (List.mem_of_getElem? (i := 7) rfl)
theorem tw8 {Z : State} {a0 : Array Value} (hw : ∀ d ∈ tables_1, d.before a0 Z = true) : (Jvm.Cond.methodLink "com/example/grantgraph/grantgraph/store/ObjectRefToStringPinLaw" (32 : Nat) ({ cls := "com/example/grantgraph/grantgraph/store/ObjectRefToStringPinLaw", name := "ch", desc := "(II)C" } : Jvm.MethodName)).before a0 Z = true := hw _ (List.mem_of_getElem? (i := 8) rfl)
theorem tw9 {Z : State} {a0 : Array Value} (hw : ∀ d ∈ tables_1, d.before a0 Z = true) : (Jvm.Cond.static ({ cls := "com/example/grantgraph/grantgraph/store/ObjectRefToStringPinLaw", name := "ch", desc := "(II)C" } : Jvm.MethodName)).before a0 Z = true := hw _ (List.mem_of_getElem? (i := 9) rfl)
theorem tw10 {Z : State} {a0 : Array Value} (hw : ∀ d ∈ tables_1, d.before a0 Z = true) : (Jvm.Cond.code ({ cls := "com/example/grantgraph/grantgraph/store/ObjectRefToStringPinLaw", name := "ch", desc := "(II)C" } : Jvm.MethodName) method_4_code (2 : Nat) (Option.some Jvm.ClassFile.FieldType.char)).before a0 Z = true := hw _ (List.mem_of_getElem? (i := 10) rfl)
theorem tw11 {Z : State} {a0 : Array Value} (hw : ∀ d ∈ tables_1, d.before a0 Z = true) : (Jvm.Cond.methodLink "com/example/grantgraph/grantgraph/store/ObjectRefToStringPinLaw" (40 : Nat) ({ cls := "java/lang/String", name := "<init>", desc := "([C)V" } : Jvm.MethodName)).before a0 Z = true := hw _ (List.mem_of_getElem? (i := 11) rfl)
theorem tw12 {Z : State} {a0 : Array Value} (hw : ∀ d ∈ tables_1, d.before a0 Z = true) : (Jvm.Cond.instanceMethod ({ cls := "java/lang/String", name := "<init>", desc := "([C)V" } : Jvm.MethodName)).before a0 Z = true := hw _ (List.mem_of_getElem? (i := 12) rfl)
theorem tw13 {Z : State} {a0 : Array Value} (hw : ∀ d ∈ tables_1, d.before a0 Z = true) : (Jvm.Cond.code ({ cls := "java/lang/String", name := "<init>", desc := "([C)V" } : Jvm.MethodName) jdk_42_method_3_code (2 : Nat) (Option.none : Option Jvm.ClassFile.FieldType)).before a0 Z = true := hw _ (List.mem_of_getElem? (i := 13) rfl)
theorem tw14 {Z : State} {a0 : Array Value} (hw : ∀ d ∈ tables_1, d.before a0 Z = true) : (Jvm.Cond.methodLink "java/lang/String" (27 : Nat) ({ cls := "java/lang/String", name := "<init>", desc := "([CIILjava/lang/Void;)V" } : Jvm.MethodName)).before a0 Z = true := hw _ (List.mem_of_getElem? (i := 14) rfl)
theorem tw15 {Z : State} {a0 : Array Value} (hw : ∀ d ∈ tables_1, d.before a0 Z = true) : (Jvm.Cond.instanceMethod ({ cls := "java/lang/String", name := "<init>", desc := "([CIILjava/lang/Void;)V" } : Jvm.MethodName)).before a0 Z = true := hw _ (List.mem_of_getElem? (i := 15) rfl)
theorem tw17 {Z : State} {a0 : Array Value} (hw : ∀ d ∈ tables_1, d.before a0 Z = true) : (Jvm.Cond.code ({ cls := "java/lang/String", name := "<init>", desc := "([CIILjava/lang/Void;)V" } : Jvm.MethodName) jdk_42_method_149_code (6 : Nat) (Option.none : Option Jvm.ClassFile.FieldType)).before a0 Z = true := hw _ (List.mem_of_getElem? (i := 17) rfl)
theorem tw18 {Z : State} {a0 : Array Value} (hw : ∀ d ∈ tables_1, d.before a0 Z = true) : (Jvm.Cond.methodLink "java/lang/String" (1 : Nat) ({ cls := "java/lang/Object", name := "<init>", desc := "()V" } : Jvm.MethodName)).before a0 Z = true := hw _ (List.mem_of_getElem? (i := 18) rfl)
theorem tw19 {Z : State} {a0 : Array Value} (hw : ∀ d ∈ tables_1, d.before a0 Z = true) : (Jvm.Cond.instanceMethod ({ cls := "java/lang/Object", name := "<init>", desc := "()V" } : Jvm.MethodName)).before a0 Z = true := hw _ (List.mem_of_getElem? (i := 19) rfl)
theorem tw20 {Z : State} {a0 : Array Value} (hw : ∀ d ∈ tables_1, d.before a0 Z = true) : (Jvm.Cond.code ({ cls := "java/lang/Object", name := "<init>", desc := "()V" } : Jvm.MethodName) object_method_1_code (1 : Nat) (Option.none : Option Jvm.ClassFile.FieldType)).before a0 Z = true := hw _ (List.mem_of_getElem? (i := 20) rfl)
theorem tw21 {Z : State} {a0 : Array Value} (hw : ∀ d ∈ tables_1, d.before a0 Z = true) : (Jvm.Cond.fieldLink "java/lang/String" (38 : Nat) "java/lang/String" "COMPACT_STRINGS" "Z").before a0 Z = true := hw _ (List.mem_of_getElem? (i := 21) rfl)
theorem tw22 {Z : State} {a0 : Array Value} (hw : ∀ d ∈ tables_1, d.before a0 Z = true) : (Jvm.Cond.methodLink "java/lang/String" (177 : Nat) ({ cls := "java/lang/StringUTF16", name := "compress", desc := "([CII)[B" } : Jvm.MethodName)).before a0 Z = true := hw _ (List.mem_of_getElem? (i := 22) rfl)
theorem tw23 {Z : State} {a0 : Array Value} (hw : ∀ d ∈ tables_1, d.before a0 Z = true) : (Jvm.Cond.static ({ cls := "java/lang/StringUTF16", name := "compress", desc := "([CII)[B" } : Jvm.MethodName)).before a0 Z = true := hw _ (List.mem_of_getElem? (i := 23) rfl)
theorem tw24 {Z : State} {a0 : Array Value} (hw : ∀ d ∈ tables_1, d.before a0 Z = true) : (Jvm.Cond.initialized "java/lang/StringUTF16").before a0 Z = true := hw _ (List.mem_of_getElem? (i := 24) rfl)
theorem tw25 {Z : State} {a0 : Array Value} (hw : ∀ d ∈ tables_1, d.before a0 Z = true) : (Jvm.Cond.code ({ cls := "java/lang/StringUTF16", name := "compress", desc := "([CII)[B" } : Jvm.MethodName) jdk_52_method_16_code (6 : Nat) (Option.some (Jvm.ClassFile.FieldType.array Jvm.ClassFile.FieldType.byte))).before a0 Z = true := hw _ (List.mem_of_getElem? (i := 25) rfl)
theorem tw26 {Z : State} {a0 : Array Value} (hw : ∀ d ∈ tables_1, d.before a0 Z = true) : (Jvm.Cond.arrayClass Jvm.ClassFile.FieldType.byte).before a0 Z = true := hw _ (List.mem_of_getElem? (i := 26) rfl)
theorem tw27 {Z : State} {a0 : Array Value} (hw : ∀ d ∈ tables_1, d.before a0 Z = true) : (Jvm.Cond.methodLink "java/lang/StringUTF16" (115 : Nat) ({ cls := "java/lang/StringUTF16", name := "compress", desc := "([CI[BII)I" } : Jvm.MethodName)).before a0 Z = true := hw _ (List.mem_of_getElem? (i := 27) rfl)
theorem tw28 {Z : State} {a0 : Array Value} (hw : ∀ d ∈ tables_1, d.before a0 Z = true) : (Jvm.Cond.static ({ cls := "java/lang/StringUTF16", name := "compress", desc := "([CI[BII)I" } : Jvm.MethodName)).before a0 Z = true := hw _ (List.mem_of_getElem? (i := 28) rfl)
theorem tw29 {Z : State} {a0 : Array Value} (hw : ∀ d ∈ tables_1, d.before a0 Z = true) : (Jvm.Cond.code ({ cls := "java/lang/StringUTF16", name := "compress", desc := "([CI[BII)I" } : Jvm.MethodName) jdk_52_method_21_code (7 : Nat) (Option.some Jvm.ClassFile.FieldType.int)).before a0 Z = true := hw _ (List.mem_of_getElem? (i := 29) rfl)
theorem tw30 {Z : State} {a0 : Array Value} (hw : ∀ d ∈ tables_1, d.before a0 Z = true) : (Jvm.Cond.methodLink "java/lang/String" (47 : Nat) ({ cls := "java/lang/StringUTF16", name := "coderFromArrayLen", desc := "([BI)B" } : Jvm.MethodName)).before a0 Z = true := hw _ (List.mem_of_getElem? (i := 30) rfl)
theorem tw31 {Z : State} {a0 : Array Value} (hw : ∀ d ∈ tables_1, d.before a0 Z = true) : (Jvm.Cond.static ({ cls := "java/lang/StringUTF16", name := "coderFromArrayLen", desc := "([BI)B" } : Jvm.MethodName)).before a0 Z = true := hw _ (List.mem_of_getElem? (i := 31) rfl)
theorem tw32 {Z : State} {a0 : Array Value} (hw : ∀ d ∈ tables_1, d.before a0 Z = true) : (Jvm.Cond.code ({ cls := "java/lang/StringUTF16", name := "coderFromArrayLen", desc := "([BI)B" } : Jvm.MethodName) jdk_52_method_15_code (2 : Nat) (Option.some Jvm.ClassFile.FieldType.byte)).before a0 Z = true := hw _ (List.mem_of_getElem? (i := 32) rfl)
theorem tw33 {Z : State} {a0 : Array Value} (hw : ∀ d ∈ tables_1, d.before a0 Z = true) : (Jvm.Cond.fieldLink "java/lang/String" (15 : Nat) "java/lang/String" "coder" "B").before a0 Z = true := hw _ (List.mem_of_getElem? (i := 33) rfl)
theorem tw34 {Z : State} {a0 : Array Value} (hw : ∀ d ∈ tables_1, d.before a0 Z = true) : (Jvm.Cond.laysFinal "java/lang/String" "java/lang/String" "coder" "B").before a0 Z = true := hw _ (List.mem_of_getElem? (i := 34) rfl)
theorem tw35 {Z : State} {a0 : Array Value} (hw : ∀ d ∈ tables_1, d.before a0 Z = true) : (Jvm.Cond.fieldLink "java/lang/String" (9 : Nat) "java/lang/String" "value" "[B").before a0 Z = true := hw _ (List.mem_of_getElem? (i := 35) rfl)
theorem tw36 {Z : State} {a0 : Array Value} (hw : ∀ d ∈ tables_1, d.before a0 Z = true) : (Jvm.Cond.laysFinal "java/lang/String" "java/lang/String" "value" "[B").before a0 Z = true := hw _ (List.mem_of_getElem? (i := 36) rfl)
theorem tw37 {Z : State} {a0 : Array Value} (hw : ∀ d ∈ tables_1, d.before a0 Z = true) : (Jvm.Cond.stringLink "java/lang/String" (7 : Nat) "").before a0 Z = true := hw _ (List.mem_of_getElem? (i := 37) rfl)
theorem tw40 {Z : State} {a0 : Array Value} (hw : ∀ d ∈ tables_1, d.before a0 Z = true) : (Jvm.Cond.classLink "com/example/grantgraph/grantgraph/store/ObjectRefToStringPinLaw" (13 : Nat) "com/example/grantgraph/grantgraph/store/ObjectRef").before a0 Z = true := hw _ (List.mem_of_getElem? (i := 40) rfl)
theorem tw41 {Z : State} {a0 : Array Value} (hw : ∀ d ∈ tables_1, d.before a0 Z = true) : (Jvm.Cond.instantiable "com/example/grantgraph/grantgraph/store/ObjectRef" (2 : Nat)).before a0 Z = true := hw _ (List.mem_of_getElem? (i := 41) rfl)
theorem tw42 {Z : State} {a0 : Array Value} (hw : ∀ d ∈ tables_1, d.before a0 Z = true) : (Jvm.Cond.initialized "com/example/grantgraph/grantgraph/store/ObjectRef").before a0 Z = true := hw _ (List.mem_of_getElem? (i := 42) rfl)
theorem tw43 {Z : State} {a0 : Array Value} (hw : ∀ d ∈ tables_1, d.before a0 Z = true) : (Jvm.Cond.methodLink "com/example/grantgraph/grantgraph/store/ObjectRefToStringPinLaw" (15 : Nat) ({ cls := "com/example/grantgraph/grantgraph/store/ObjectRef", name := "<init>", desc := "(Ljava/lang/String;Ljava/lang/String;)V" } : Jvm.MethodName)).before a0 Z = true := hw _ (List.mem_of_getElem? (i := 43) rfl)
theorem tw44 {Z : State} {a0 : Array Value} (hw : ∀ d ∈ tables_1, d.before a0 Z = true) : (Jvm.Cond.instanceMethod ({ cls := "com/example/grantgraph/grantgraph/store/ObjectRef", name := "<init>", desc := "(Ljava/lang/String;Ljava/lang/String;)V" } : Jvm.MethodName)).before a0 Z = true := hw _ (List.mem_of_getElem? (i := 44) rfl)
theorem tw45 {Z : State} {a0 : Array Value} (hw : ∀ d ∈ tables_1, d.before a0 Z = true) : (Jvm.Cond.code ({ cls := "com/example/grantgraph/grantgraph/store/ObjectRef", name := "<init>", desc := "(Ljava/lang/String;Ljava/lang/String;)V" } : Jvm.MethodName) prog_36_method_1_code (3 : Nat) (Option.none : Option Jvm.ClassFile.FieldType)).before a0 Z = true := hw _ (List.mem_of_getElem? (i := 45) rfl)
theorem tw46 {Z : State} {a0 : Array Value} (hw : ∀ d ∈ tables_1, d.before a0 Z = true) : (Jvm.Cond.methodLink "com/example/grantgraph/grantgraph/store/ObjectRef" (1 : Nat) ({ cls := "java/lang/Record", name := "<init>", desc := "()V" } : Jvm.MethodName)).before a0 Z = true := hw _ (List.mem_of_getElem? (i := 46) rfl)
theorem tw47 {Z : State} {a0 : Array Value} (hw : ∀ d ∈ tables_1, d.before a0 Z = true) : (Jvm.Cond.instanceMethod ({ cls := "java/lang/Record", name := "<init>", desc := "()V" } : Jvm.MethodName)).before a0 Z = true := hw _ (List.mem_of_getElem? (i := 47) rfl)
theorem tw49 {Z : State} {a0 : Array Value} (hw : ∀ d ∈ tables_1, d.before a0 Z = true) : (Jvm.Cond.initialized "java/lang/Record").before a0 Z = true := hw _ (List.mem_of_getElem? (i := 49) rfl)
theorem tw50 {Z : State} {a0 : Array Value} (hw : ∀ d ∈ tables_1, d.before a0 Z = true) : (Jvm.Cond.code ({ cls := "java/lang/Record", name := "<init>", desc := "()V" } : Jvm.MethodName) jdk_30_method_1_code (1 : Nat) (Option.none : Option Jvm.ClassFile.FieldType)).before a0 Z = true := hw _ (List.mem_of_getElem? (i := 50) rfl)
theorem tw51 {Z : State} {a0 : Array Value} (hw : ∀ d ∈ tables_1, d.before a0 Z = true) : (Jvm.Cond.methodLink "java/lang/Record" (1 : Nat) ({ cls := "java/lang/Object", name := "<init>", desc := "()V" } : Jvm.MethodName)).before a0 Z = true := hw _ (List.mem_of_getElem? (i := 51) rfl)
theorem tw52 {Z : State} {a0 : Array Value} (hw : ∀ d ∈ tables_1, d.before a0 Z = true) : (Jvm.Cond.fieldLink "com/example/grantgraph/grantgraph/store/ObjectRef" (7 : Nat) "com/example/grantgraph/grantgraph/store/ObjectRef" "type" "Ljava/lang/String;").before a0 Z = true := hw _ (List.mem_of_getElem? (i := 52) rfl)
theorem tw53 {Z : State} {a0 : Array Value} (hw : ∀ d ∈ tables_1, d.before a0 Z = true) : (Jvm.Cond.laysFinal "com/example/grantgraph/grantgraph/store/ObjectRef" "com/example/grantgraph/grantgraph/store/ObjectRef" "type" "Ljava/lang/String;").before a0 Z = true := hw _ (List.mem_of_getElem? (i := 53) rfl)
theorem tw54 {Z : State} {a0 : Array Value} (hw : ∀ d ∈ tables_1, d.before a0 Z = true) : (Jvm.Cond.fieldLink "com/example/grantgraph/grantgraph/store/ObjectRef" (13 : Nat) "com/example/grantgraph/grantgraph/store/ObjectRef" "id" "Ljava/lang/String;").before a0 Z = true := hw _ (List.mem_of_getElem? (i := 54) rfl)
theorem tw55 {Z : State} {a0 : Array Value} (hw : ∀ d ∈ tables_1, d.before a0 Z = true) : (Jvm.Cond.laysFinal "com/example/grantgraph/grantgraph/store/ObjectRef" "com/example/grantgraph/grantgraph/store/ObjectRef" "id" "Ljava/lang/String;").before a0 Z = true := hw _ (List.mem_of_getElem? (i := 55) rfl)
theorem tw56 {Z : State} {a0 : Array Value} (hw : ∀ d ∈ tables_1, d.before a0 Z = true) : (Jvm.Cond.methodLink "com/example/grantgraph/grantgraph/store/ObjectRefToStringPinLaw" (18 : Nat) ({ cls := "com/example/grantgraph/grantgraph/store/ObjectRef", name := "toString", desc := "()Ljava/lang/String;" } : Jvm.MethodName)).before a0 Z = true := hw _ (List.mem_of_getElem? (i := 56) rfl)
theorem tw57 {Z : State} {a0 : Array Value} (hw : ∀ d ∈ tables_1, d.before a0 Z = true) : (Jvm.Cond.declares ({ cls := "com/example/grantgraph/grantgraph/store/ObjectRef", name := "toString", desc := "()Ljava/lang/String;" } : Jvm.MethodName)).before a0 Z = true := hw _ (List.mem_of_getElem? (i := 57) rfl)
theorem tw58 {Z : State} {a0 : Array Value} (hw : ∀ d ∈ tables_1, d.before a0 Z = true) : (Jvm.Cond.instanceMethod ({ cls := "com/example/grantgraph/grantgraph/store/ObjectRef", name := "toString", desc := "()Ljava/lang/String;" } : Jvm.MethodName)).before a0 Z = true := hw _ (List.mem_of_getElem? (i := 58) rfl)
theorem tw59 {Z : State} {a0 : Array Value} (hw : ∀ d ∈ tables_1, d.before a0 Z = true) : (Jvm.Cond.selects "com/example/grantgraph/grantgraph/store/ObjectRef" ({ cls := "com/example/grantgraph/grantgraph/store/ObjectRef", name := "toString", desc := "()Ljava/lang/String;" } : Jvm.MethodName) ({ cls := "com/example/grantgraph/grantgraph/store/ObjectRef", name := "toString", desc := "()Ljava/lang/String;" } : Jvm.MethodName)).before a0 Z = true := hw _ (List.mem_of_getElem? (i := 59) rfl)
theorem tw60 {Z : State} {a0 : Array Value} (hw : ∀ d ∈ tables_1, d.before a0 Z = true) : (Jvm.Cond.code ({ cls := "com/example/grantgraph/grantgraph/store/ObjectRef", name := "toString", desc := "()Ljava/lang/String;" } : Jvm.MethodName) prog_36_method_2_code (1 : Nat) (Option.some (Jvm.ClassFile.FieldType.object "java/lang/String"))).before a0 Z = true := hw _ (List.mem_of_getElem? (i := 60) rfl)
theorem tw61 {Z : State} {a0 : Array Value} (hw : ∀ d ∈ tables_1, d.before a0 Z = true) : (Jvm.Cond.classLink "com/example/grantgraph/grantgraph/store/ObjectRef" (16 : Nat) "java/lang/StringBuilder").before a0 Z = true := hw _ (List.mem_of_getElem? (i := 61) rfl)
theorem tw62 {Z : State} {a0 : Array Value} (hw : ∀ d ∈ tables_1, d.before a0 Z = true) : (Jvm.Cond.instantiable "java/lang/StringBuilder" (4 : Nat)).before a0 Z = true := hw _ (List.mem_of_getElem? (i := 62) rfl)
theorem tw63 {Z : State} {a0 : Array Value} (hw : ∀ d ∈ tables_1, d.before a0 Z = true) : (Jvm.Cond.initialized "java/lang/StringBuilder").before a0 Z = true := hw _ (List.mem_of_getElem? (i := 63) rfl)
theorem tw64 {Z : State} {a0 : Array Value} (hw : ∀ d ∈ tables_1, d.before a0 Z = true) : (Jvm.Cond.methodLink "com/example/grantgraph/grantgraph/store/ObjectRef" (18 : Nat) ({ cls := "java/lang/StringBuilder", name := "<init>", desc := "()V" } : Jvm.MethodName)).before a0 Z = true := hw _ (List.mem_of_getElem? (i := 64) rfl)
theorem tw65 {Z : State} {a0 : Array Value} (hw : ∀ d ∈ tables_1, d.before a0 Z = true) : (Jvm.Cond.instanceMethod ({ cls := "java/lang/StringBuilder", name := "<init>", desc := "()V" } : Jvm.MethodName)).before a0 Z = true := hw _ (List.mem_of_getElem? (i := 65) rfl)
theorem tw66 {Z : State} {a0 : Array Value} (hw : ∀ d ∈ tables_1, d.before a0 Z = true) : (Jvm.Cond.code ({ cls := "java/lang/StringBuilder", name := "<init>", desc := "()V" } : Jvm.MethodName) jdk_67_method_1_code (1 : Nat) (Option.none : Option Jvm.ClassFile.FieldType)).before a0 Z = true := hw _ (List.mem_of_getElem? (i := 66) rfl)
theorem tw67 {Z : State} {a0 : Array Value} (hw : ∀ d ∈ tables_1, d.before a0 Z = true) : (Jvm.Cond.methodLink "java/lang/StringBuilder" (1 : Nat) ({ cls := "java/lang/AbstractStringBuilder", name := "<init>", desc := "(I)V" } : Jvm.MethodName)).before a0 Z = true := hw _ (List.mem_of_getElem? (i := 67) rfl)
theorem tw68 {Z : State} {a0 : Array Value} (hw : ∀ d ∈ tables_1, d.before a0 Z = true) : (Jvm.Cond.instanceMethod ({ cls := "java/lang/AbstractStringBuilder", name := "<init>", desc := "(I)V" } : Jvm.MethodName)).before a0 Z = true := hw _ (List.mem_of_getElem? (i := 68) rfl)
theorem tw71 {Z : State} {a0 : Array Value} (hw : ∀ d ∈ tables_1, d.before a0 Z = true) : (Jvm.Cond.initialized "java/lang/AbstractStringBuilder").before a0 Z = true := hw _ (List.mem_of_getElem? (i := 71) rfl)
theorem tw72 {Z : State} {a0 : Array Value} (hw : ∀ d ∈ tables_1, d.before a0 Z = true) : (Jvm.Cond.code ({ cls := "java/lang/AbstractStringBuilder", name := "<init>", desc := "(I)V" } : Jvm.MethodName) jdk_68_method_2_code (2 : Nat) (Option.none : Option Jvm.ClassFile.FieldType)).before a0 Z = true := hw _ (List.mem_of_getElem? (i := 72) rfl)
theorem tw73 {Z : State} {a0 : Array Value} (hw : ∀ d ∈ tables_1, d.before a0 Z = true) : (Jvm.Cond.methodLink "java/lang/AbstractStringBuilder" (3 : Nat) ({ cls := "java/lang/Object", name := "<init>", desc := "()V" } : Jvm.MethodName)).before a0 Z = true := hw _ (List.mem_of_getElem? (i := 73) rfl)
theorem tw74 {Z : State} {a0 : Array Value} (hw : ∀ d ∈ tables_1, d.before a0 Z = true) : (Jvm.Cond.fieldLink "java/lang/AbstractStringBuilder" (18 : Nat) "java/lang/String" "COMPACT_STRINGS" "Z").before a0 Z = true := hw _ (List.mem_of_getElem? (i := 74) rfl)
theorem tw75 {Z : State} {a0 : Array Value} (hw : ∀ d ∈ tables_1, d.before a0 Z = true) : (Jvm.Cond.fieldLink "java/lang/AbstractStringBuilder" (15 : Nat) "java/lang/AbstractStringBuilder" "value" "[B").before a0 Z = true := hw _ (List.mem_of_getElem? (i := 75) rfl)
theorem tw76 {Z : State} {a0 : Array Value} (hw : ∀ d ∈ tables_1, d.before a0 Z = true) : (Jvm.Cond.lays "java/lang/StringBuilder" "java/lang/AbstractStringBuilder" "value" "[B").before a0 Z = true := hw _ (List.mem_of_getElem? (i := 76) rfl)
theorem tw77 {Z : State} {a0 : Array Value} (hw : ∀ d ∈ tables_1, d.before a0 Z = true) : (Jvm.Cond.fieldLink "java/lang/AbstractStringBuilder" (22 : Nat) "java/lang/AbstractStringBuilder" "coder" "B").before a0 Z = true := hw _ (List.mem_of_getElem? (i := 77) rfl)
theorem tw78 {Z : State} {a0 : Array Value} (hw : ∀ d ∈ tables_1, d.before a0 Z = true) : (Jvm.Cond.lays "java/lang/StringBuilder" "java/lang/AbstractStringBuilder" "coder" "B").before a0 Z = true := hw _ (List.mem_of_getElem? (i := 78) rfl)
theorem tw79 {Z : State} {a0 : Array Value} (hw : ∀ d ∈ tables_1, d.before a0 Z = true) : (Jvm.Cond.methodLink "com/example/grantgraph/grantgraph/store/ObjectRef" (19 : Nat) ({ cls := "java/lang/StringBuilder", name := "append", desc := "(Ljava/lang/String;)Ljava/lang/StringBuilder;" } : Jvm.MethodName)).before a0 Z = true := hw _ (List.mem_of_getElem? (i := 79) rfl)
theorem tw80 {Z : State} {a0 : Array Value} (hw : ∀ d ∈ tables_1, d.before a0 Z = true) : (Jvm.Cond.declares ({ cls := "java/lang/StringBuilder", name := "append", desc := "(Ljava/lang/String;)Ljava/lang/StringBuilder;" } : Jvm.MethodName)).before a0 Z = true := hw _ (List.mem_of_getElem? (i := 80) rfl)
theorem tw81 {Z : State} {a0 : Array Value} (hw : ∀ d ∈ tables_1, d.before a0 Z = true) : (Jvm.Cond.instanceMethod ({ cls := "java/lang/StringBuilder", name := "append", desc := "(Ljava/lang/String;)Ljava/lang/StringBuilder;" } : Jvm.MethodName)).before a0 Z = true := hw _ (List.mem_of_getElem? (i := 81) rfl)
theorem tw82 {Z : State} {a0 : Array Value} (hw : ∀ d ∈ tables_1, d.before a0 Z = true) : (Jvm.Cond.selects "java/lang/StringBuilder" ({ cls := "java/lang/StringBuilder", name := "append", desc := "(Ljava/lang/String;)Ljava/lang/StringBuilder;" } : Jvm.MethodName) ({ cls := "java/lang/StringBuilder", name := "append", desc := "(Ljava/lang/String;)Ljava/lang/StringBuilder;" } : Jvm.MethodName)).before a0 Z = true := hw _ (List.mem_of_getElem? (i := 82) rfl)
theorem tw83 {Z : State} {a0 : Array Value} (hw : ∀ d ∈ tables_1, d.before a0 Z = true) : (Jvm.Cond.code ({ cls := "java/lang/StringBuilder", name := "append", desc := "(Ljava/lang/String;)Ljava/lang/StringBuilder;" } : Jvm.MethodName) jdk_67_method_7_code (2 : Nat) (Option.some (Jvm.ClassFile.FieldType.object "java/lang/StringBuilder"))).before a0 Z = true := hw _ (List.mem_of_getElem? (i := 83) rfl)
theorem tw84 {Z : State} {a0 : Array Value} (hw : ∀ d ∈ tables_1, d.before a0 Z = true) : (Jvm.Cond.methodLink "java/lang/StringBuilder" (29 : Nat) ({ cls := "java/lang/AbstractStringBuilder", name := "append", desc := "(Ljava/lang/String;)Ljava/lang/AbstractStringBuilder;" } : Jvm.MethodName)).before a0 Z = true := hw _ (List.mem_of_getElem? (i := 84) rfl)
theorem tw85 {Z : State} {a0 : Array Value} (hw : ∀ d ∈ tables_1, d.before a0 Z = true) : (Jvm.Cond.instanceMethod ({ cls := "java/lang/AbstractStringBuilder", name := "append", desc := "(Ljava/lang/String;)Ljava/lang/AbstractStringBuilder;" } : Jvm.MethodName)).before a0 Z = true := hw _ (List.mem_of_getElem? (i := 85) rfl)
theorem tw86 {Z : State} {a0 : Array Value} (hw : ∀ d ∈ tables_1, d.before a0 Z = true) : (Jvm.Cond.superclass "java/lang/StringBuilder" "java/lang/AbstractStringBuilder").before a0 Z = true := hw _ (List.mem_of_getElem? (i := 86) rfl)
theorem tw88 {Z : State} {a0 : Array Value} (hw : ∀ d ∈ tables_1, d.before a0 Z = true) : (Jvm.Cond.code ({ cls := "java/lang/AbstractStringBuilder", name := "append", desc := "(Ljava/lang/String;)Ljava/lang/AbstractStringBuilder;" } : Jvm.MethodName) jdk_68_method_22_code (3 : Nat) (Option.some (Jvm.ClassFile.FieldType.object "java/lang/AbstractStringBuilder"))).before a0 Z = true := hw _ (List.mem_of_getElem? (i := 88) rfl)
theorem tw89 {Z : State} {a0 : Array Value} (hw : ∀ d ∈ tables_1, d.before a0 Z = true) : (Jvm.Cond.methodLink "java/lang/AbstractStringBuilder" (32 : Nat) ({ cls := "java/lang/String", name := "length", desc := "()I" } : Jvm.MethodName)).before a0 Z = true := hw _ (List.mem_of_getElem? (i := 89) rfl)
theorem tw90 {Z : State} {a0 : Array Value} (hw : ∀ d ∈ tables_1, d.before a0 Z = true) : (Jvm.Cond.declares ({ cls := "java/lang/String", name := "length", desc := "()I" } : Jvm.MethodName)).before a0 Z = true := hw _ (List.mem_of_getElem? (i := 90) rfl)
theorem tw91 {Z : State} {a0 : Array Value} (hw : ∀ d ∈ tables_1, d.before a0 Z = true) : (Jvm.Cond.instanceMethod ({ cls := "java/lang/String", name := "length", desc := "()I" } : Jvm.MethodName)).before a0 Z = true := hw _ (List.mem_of_getElem? (i := 91) rfl)
theorem tw92 {Z : State} {a0 : Array Value} (hw : ∀ d ∈ tables_1, d.before a0 Z = true) : (Jvm.Cond.selects "java/lang/String" ({ cls := "java/lang/String", name := "length", desc := "()I" } : Jvm.MethodName) ({ cls := "java/lang/String", name := "length", desc := "()I" } : Jvm.MethodName)).before a0 Z = true := hw _ (List.mem_of_getElem? (i := 92) rfl)
theorem tw93 {Z : State} {a0 : Array Value} (hw : ∀ d ∈ tables_1, d.before a0 Z = true) : (Jvm.Cond.code ({ cls := "java/lang/String", name := "length", desc := "()I" } : Jvm.MethodName) jdk_42_method_54_code (1 : Nat) (Option.some Jvm.ClassFile.FieldType.int)).before a0 Z = true := hw _ (List.mem_of_getElem? (i := 93) rfl)
theorem tw94 {Z : State} {a0 : Array Value} (hw : ∀ d ∈ tables_1, d.before a0 Z = true) : (Jvm.Cond.methodLink "java/lang/String" (335 : Nat) ({ cls := "java/lang/String", name := "coder", desc := "()B" } : Jvm.MethodName)).before a0 Z = true := hw _ (List.mem_of_getElem? (i := 94) rfl)
theorem tw95 {Z : State} {a0 : Array Value} (hw : ∀ d ∈ tables_1, d.before a0 Z = true) : (Jvm.Cond.declares ({ cls := "java/lang/String", name := "coder", desc := "()B" } : Jvm.MethodName)).before a0 Z = true := hw _ (List.mem_of_getElem? (i := 95) rfl)
theorem tw96 {Z : State} {a0 : Array Value} (hw : ∀ d ∈ tables_1, d.before a0 Z = true) : (Jvm.Cond.instanceMethod ({ cls := "java/lang/String", name := "coder", desc := "()B" } : Jvm.MethodName)).before a0 Z = true := hw _ (List.mem_of_getElem? (i := 96) rfl)
theorem tw97 {Z : State} {a0 : Array Value} (hw : ∀ d ∈ tables_1, d.before a0 Z = true) : (Jvm.Cond.selects "java/lang/String" ({ cls := "java/lang/String", name := "coder", desc := "()B" } : Jvm.MethodName) ({ cls := "java/lang/String", name := "coder", desc := "()B" } : Jvm.MethodName)).before a0 Z = true := hw _ (List.mem_of_getElem? (i := 97) rfl)
theorem tw98 {Z : State} {a0 : Array Value} (hw : ∀ d ∈ tables_1, d.before a0 Z = true) : (Jvm.Cond.code ({ cls := "java/lang/String", name := "coder", desc := "()B" } : Jvm.MethodName) jdk_42_method_152_code (1 : Nat) (Option.some Jvm.ClassFile.FieldType.byte)).before a0 Z = true := hw _ (List.mem_of_getElem? (i := 98) rfl)
theorem tw99 {Z : State} {a0 : Array Value} (hw : ∀ d ∈ tables_1, d.before a0 Z = true) : (Jvm.Cond.fieldLink "java/lang/AbstractStringBuilder" (79 : Nat) "java/lang/AbstractStringBuilder" "count" "I").before a0 Z = true := hw _ (List.mem_of_getElem? (i := 99) rfl)
theorem tw100 {Z : State} {a0 : Array Value} (hw : ∀ d ∈ tables_1, d.before a0 Z = true) : (Jvm.Cond.lays "java/lang/StringBuilder" "java/lang/AbstractStringBuilder" "count" "I").before a0 Z = true := hw _ (List.mem_of_getElem? (i := 100) rfl)
theorem tw101 {Z : State} {a0 : Array Value} (hw : ∀ d ∈ tables_1, d.before a0 Z = true) : (Jvm.Cond.methodLink "java/lang/AbstractStringBuilder" (100 : Nat) ({ cls := "java/lang/AbstractStringBuilder", name := "ensureCapacityInternal", desc := "(I)V" } : Jvm.MethodName)).before a0 Z = true := hw _ (List.mem_of_getElem? (i := 101) rfl)
theorem tw102 {Z : State} {a0 : Array Value} (hw : ∀ d ∈ tables_1, d.before a0 Z = true) : (Jvm.Cond.instanceMethod ({ cls := "java/lang/AbstractStringBuilder", name := "ensureCapacityInternal", desc := "(I)V" } : Jvm.MethodName)).before a0 Z = true := hw _ (List.mem_of_getElem? (i := 102) rfl)
theorem tw103 {Z : State} {a0 : Array Value} (hw : ∀ d ∈ tables_1, d.before a0 Z = true) : (Jvm.Cond.privateMethod ({ cls := "java/lang/AbstractStringBuilder", name := "ensureCapacityInternal", desc := "(I)V" } : Jvm.MethodName)).before a0 Z = true := hw _ (List.mem_of_getElem? (i := 103) rfl)
theorem tw104 {Z : State} {a0 : Array Value} (hw : ∀ d ∈ tables_1, d.before a0 Z = true) : (Jvm.Cond.selects "java/lang/StringBuilder" ({ cls := "java/lang/AbstractStringBuilder", name := "ensureCapacityInternal", desc := "(I)V" } : Jvm.MethodName) ({ cls := "java/lang/AbstractStringBuilder", name := "ensureCapacityInternal", desc := "(I)V" } : Jvm.MethodName)).before a0 Z = true := hw _ (List.mem_of_getElem? (i := 104) rfl)
theorem tw105 {Z : State} {a0 : Array Value} (hw : ∀ d ∈ tables_1, d.before a0 Z = true) : (Jvm.Cond.code ({ cls := "java/lang/AbstractStringBuilder", name := "ensureCapacityInternal", desc := "(I)V" } : Jvm.MethodName) jdk_68_method_9_code (3 : Nat) (Option.none : Option Jvm.ClassFile.FieldType)).before a0 Z = true := hw _ (List.mem_of_getElem? (i := 105) rfl)
theorem tw106 {Z : State} {a0 : Array Value} (hw : ∀ d ∈ tables_1, d.before a0 Z = true) : (Jvm.Cond.methodLink "java/lang/AbstractStringBuilder" (208 : Nat) ({ cls := "java/lang/AbstractStringBuilder", name := "putStringAt", desc := "(ILjava/lang/String;)V" } : Jvm.MethodName)).before a0 Z = true := hw _ (List.mem_of_getElem? (i := 106) rfl)
theorem tw107 {Z : State} {a0 : Array Value} (hw : ∀ d ∈ tables_1, d.before a0 Z = true) : (Jvm.Cond.instanceMethod ({ cls := "java/lang/AbstractStringBuilder", name := "putStringAt", desc := "(ILjava/lang/String;)V" } : Jvm.MethodName)).before a0 Z = true := hw _ (List.mem_of_getElem? (i := 107) rfl)
theorem tw108 {Z : State} {a0 : Array Value} (hw : ∀ d ∈ tables_1, d.before a0 Z = true) : (Jvm.Cond.privateMethod ({ cls := "java/lang/AbstractStringBuilder", name := "putStringAt", desc := "(ILjava/lang/String;)V" } : Jvm.MethodName)).before a0 Z = true := hw _ (List.mem_of_getElem? (i := 108) rfl)
theorem tw109 {Z : State} {a0 : Array Value} (hw : ∀ d ∈ tables_1, d.before a0 Z = true) : (Jvm.Cond.selects "java/lang/StringBuilder" ({ cls := "java/lang/AbstractStringBuilder", name := "putStringAt", desc := "(ILjava/lang/String;)V" } : Jvm.MethodName) ({ cls := "java/lang/AbstractStringBuilder", name := "putStringAt", desc := "(ILjava/lang/String;)V" } : Jvm.MethodName)).before a0 Z = true := hw _ (List.mem_of_getElem? (i := 109) rfl)
theorem tw110 {Z : State} {a0 : Array Value} (hw : ∀ d ∈ tables_1, d.before a0 Z = true) : (Jvm.Cond.code ({ cls := "java/lang/AbstractStringBuilder", name := "putStringAt", desc := "(ILjava/lang/String;)V" } : Jvm.MethodName) jdk_68_method_73_code (3 : Nat) (Option.none : Option Jvm.ClassFile.FieldType)).before a0 Z = true := hw _ (List.mem_of_getElem? (i := 110) rfl)
theorem tw111 {Z : State} {a0 : Array Value} (hw : ∀ d ∈ tables_1, d.before a0 Z = true) : (Jvm.Cond.methodLink "java/lang/AbstractStringBuilder" (397 : Nat) ({ cls := "java/lang/AbstractStringBuilder", name := "inflateIfNeededFor", desc := "(Ljava/lang/String;)V" } : Jvm.MethodName)).before a0 Z = true := hw _ (List.mem_of_getElem? (i := 111) rfl)
theorem tw112 {Z : State} {a0 : Array Value} (hw : ∀ d ∈ tables_1, d.before a0 Z = true) : (Jvm.Cond.instanceMethod ({ cls := "java/lang/AbstractStringBuilder", name := "inflateIfNeededFor", desc := "(Ljava/lang/String;)V" } : Jvm.MethodName)).before a0 Z = true := hw _ (List.mem_of_getElem? (i := 112) rfl)
theorem tw113 {Z : State} {a0 : Array Value} (hw : ∀ d ∈ tables_1, d.before a0 Z = true) : (Jvm.Cond.privateMethod ({ cls := "java/lang/AbstractStringBuilder", name := "inflateIfNeededFor", desc := "(Ljava/lang/String;)V" } : Jvm.MethodName)).before a0 Z = true := hw _ (List.mem_of_getElem? (i := 113) rfl)
theorem tw114 {Z : State} {a0 : Array Value} (hw : ∀ d ∈ tables_1, d.before a0 Z = true) : (Jvm.Cond.selects "java/lang/StringBuilder" ({ cls := "java/lang/AbstractStringBuilder", name := "inflateIfNeededFor", desc := "(Ljava/lang/String;)V" } : Jvm.MethodName) ({ cls := "java/lang/AbstractStringBuilder", name := "inflateIfNeededFor", desc := "(Ljava/lang/String;)V" } : Jvm.MethodName)).before a0 Z = true := hw _ (List.mem_of_getElem? (i := 114) rfl)
theorem tw115 {Z : State} {a0 : Array Value} (hw : ∀ d ∈ tables_1, d.before a0 Z = true) : (Jvm.Cond.code ({ cls := "java/lang/AbstractStringBuilder", name := "inflateIfNeededFor", desc := "(Ljava/lang/String;)V" } : Jvm.MethodName) jdk_68_method_71_code (2 : Nat) (Option.none : Option Jvm.ClassFile.FieldType)).before a0 Z = true := hw _ (List.mem_of_getElem? (i := 115) rfl)
theorem tw116 {Z : State} {a0 : Array Value} (hw : ∀ d ∈ tables_1, d.before a0 Z = true) : (Jvm.Cond.methodLink "java/lang/AbstractStringBuilder" (40 : Nat) ({ cls := "java/lang/String", name := "coder", desc := "()B" } : Jvm.MethodName)).before a0 Z = true := hw _ (List.mem_of_getElem? (i := 116) rfl)
theorem tw117 {Z : State} {a0 : Array Value} (hw : ∀ d ∈ tables_1, d.before a0 Z = true) : (Jvm.Cond.methodLink "java/lang/AbstractStringBuilder" (399 : Nat) ({ cls := "java/lang/String", name := "getBytes", desc := "([BIB)V" } : Jvm.MethodName)).before a0 Z = true := hw _ (List.mem_of_getElem? (i := 117) rfl)
theorem tw118 {Z : State} {a0 : Array Value} (hw : ∀ d ∈ tables_1, d.before a0 Z = true) : (Jvm.Cond.declares ({ cls := "java/lang/String", name := "getBytes", desc := "([BIB)V" } : Jvm.MethodName)).before a0 Z = true := hw _ (List.mem_of_getElem? (i := 118) rfl)
theorem tw119 {Z : State} {a0 : Array Value} (hw : ∀ d ∈ tables_1, d.before a0 Z = true) : (Jvm.Cond.instanceMethod ({ cls := "java/lang/String", name := "getBytes", desc := "([BIB)V" } : Jvm.MethodName)).before a0 Z = true := hw _ (List.mem_of_getElem? (i := 119) rfl)
theorem tw120 {Z : State} {a0 : Array Value} (hw : ∀ d ∈ tables_1, d.before a0 Z = true) : (Jvm.Cond.selects "java/lang/String" ({ cls := "java/lang/String", name := "getBytes", desc := "([BIB)V" } : Jvm.MethodName) ({ cls := "java/lang/String", name := "getBytes", desc := "([BIB)V" } : Jvm.MethodName)).before a0 Z = true := hw _ (List.mem_of_getElem? (i := 120) rfl)
theorem tw121 {Z : State} {a0 : Array Value} (hw : ∀ d ∈ tables_1, d.before a0 Z = true) : (Jvm.Cond.code ({ cls := "java/lang/String", name := "getBytes", desc := "([BIB)V" } : Jvm.MethodName) jdk_42_method_147_code (4 : Nat) (Option.none : Option Jvm.ClassFile.FieldType)).before a0 Z = true := hw _ (List.mem_of_getElem? (i := 121) rfl)
theorem tw122 {Z : State} {a0 : Array Value} (hw : ∀ d ∈ tables_1, d.before a0 Z = true) : (Jvm.Cond.methodLink "java/lang/String" (212 : Nat) ({ cls := "java/lang/System", name := "arraycopy", desc := "(Ljava/lang/Object;ILjava/lang/Object;II)V" } : Jvm.MethodName)).before a0 Z = true := hw _ (List.mem_of_getElem? (i := 122) rfl)
theorem tw123 {Z : State} {a0 : Array Value} (hw : ∀ d ∈ tables_1, d.before a0 Z = true) : (Jvm.Cond.static ({ cls := "java/lang/System", name := "arraycopy", desc := "(Ljava/lang/Object;ILjava/lang/Object;II)V" } : Jvm.MethodName)).before a0 Z = true := hw _ (List.mem_of_getElem? (i := 123) rfl)
theorem tw124 {Z : State} {a0 : Array Value} (hw : ∀ d ∈ tables_1, d.before a0 Z = true) : (Jvm.Cond.initialized "java/lang/System").before a0 Z = true := hw _ (List.mem_of_getElem? (i := 124) rfl)
theorem tw125 {Z : State} {a0 : Array Value} (hw : ∀ d ∈ tables_1, d.before a0 Z = true) : (Jvm.Cond.native ({ cls := "java/lang/System", name := "arraycopy", desc := "(Ljava/lang/Object;ILjava/lang/Object;II)V" } : Jvm.MethodName)).before a0 Z = true := hw _ (List.mem_of_getElem? (i := 125) rfl)
theorem tw126 {Z : State} {a0 : Array Value} (hw : ∀ d ∈ tables_1, d.before a0 Z = true) : (Jvm.Cond.stringLink "com/example/grantgraph/grantgraph/store/ObjectRef" (23 : Nat) ":").before a0 Z = true := hw _ (List.mem_of_getElem? (i := 126) rfl)
theorem tw127 {Z : State} {a0 : Array Value} (hw : ∀ d ∈ tables_1, d.before a0 Z = true) : (Jvm.Cond.methodLink "com/example/grantgraph/grantgraph/store/ObjectRef" (25 : Nat) ({ cls := "java/lang/StringBuilder", name := "toString", desc := "()Ljava/lang/String;" } : Jvm.MethodName)).before a0 Z = true := hw _ (List.mem_of_getElem? (i := 127) rfl)
theorem tw128 {Z : State} {a0 : Array Value} (hw : ∀ d ∈ tables_1, d.before a0 Z = true) : (Jvm.Cond.declares ({ cls := "java/lang/StringBuilder", name := "toString", desc := "()Ljava/lang/String;" } : Jvm.MethodName)).before a0 Z = true := hw _ (List.mem_of_getElem? (i := 128) rfl)
theorem tw129 {Z : State} {a0 : Array Value} (hw : ∀ d ∈ tables_1, d.before a0 Z = true) : (Jvm.Cond.instanceMethod ({ cls := "java/lang/StringBuilder", name := "toString", desc := "()Ljava/lang/String;" } : Jvm.MethodName)).before a0 Z = true := hw _ (List.mem_of_getElem? (i := 129) rfl)
theorem tw130 {Z : State} {a0 : Array Value} (hw : ∀ d ∈ tables_1, d.before a0 Z = true) : (Jvm.Cond.selects "java/lang/StringBuilder" ({ cls := "java/lang/StringBuilder", name := "toString", desc := "()Ljava/lang/String;" } : Jvm.MethodName) ({ cls := "java/lang/StringBuilder", name := "toString", desc := "()Ljava/lang/String;" } : Jvm.MethodName)).before a0 Z = true := hw _ (List.mem_of_getElem? (i := 130) rfl)
theorem tw131 {Z : State} {a0 : Array Value} (hw : ∀ d ∈ tables_1, d.before a0 Z = true) : (Jvm.Cond.code ({ cls := "java/lang/StringBuilder", name := "toString", desc := "()Ljava/lang/String;" } : Jvm.MethodName) jdk_67_method_42_code (1 : Nat) (Option.some (Jvm.ClassFile.FieldType.object "java/lang/String"))).before a0 Z = true := hw _ (List.mem_of_getElem? (i := 131) rfl)
theorem tw132 {Z : State} {a0 : Array Value} (hw : ∀ d ∈ tables_1, d.before a0 Z = true) : (Jvm.Cond.classLink "java/lang/StringBuilder" (18 : Nat) "java/lang/String").before a0 Z = true := hw _ (List.mem_of_getElem? (i := 132) rfl)
theorem tw133 {Z : State} {a0 : Array Value} (hw : ∀ d ∈ tables_1, d.before a0 Z = true) : (Jvm.Cond.methodLink "java/lang/StringBuilder" (137 : Nat) ({ cls := "java/lang/String", name := "<init>", desc := "(Ljava/lang/StringBuilder;)V" } : Jvm.MethodName)).before a0 Z = true := hw _ (List.mem_of_getElem? (i := 133) rfl)
theorem tw134 {Z : State} {a0 : Array Value} (hw : ∀ d ∈ tables_1, d.before a0 Z = true) : (Jvm.Cond.instanceMethod ({ cls := "java/lang/String", name := "<init>", desc := "(Ljava/lang/StringBuilder;)V" } : Jvm.MethodName)).before a0 Z = true := hw _ (List.mem_of_getElem? (i := 134) rfl)
theorem tw135 {Z : State} {a0 : Array Value} (hw : ∀ d ∈ tables_1, d.before a0 Z = true) : (Jvm.Cond.code ({ cls := "java/lang/String", name := "<init>", desc := "(Ljava/lang/StringBuilder;)V" } : Jvm.MethodName) jdk_42_method_53_code (2 : Nat) (Option.none : Option Jvm.ClassFile.FieldType)).before a0 Z = true := hw _ (List.mem_of_getElem? (i := 135) rfl)
theorem tw136 {Z : State} {a0 : Array Value} (hw : ∀ d ∈ tables_1, d.before a0 Z = true) : (Jvm.Cond.methodLink "java/lang/String" (489 : Nat) ({ cls := "java/lang/String", name := "<init>", desc := "(Ljava/lang/AbstractStringBuilder;Ljava/lang/Void;)V" } : Jvm.MethodName)).before a0 Z = true := hw _ (List.mem_of_getElem? (i := 136) rfl)
theorem tw137 {Z : State} {a0 : Array Value} (hw : ∀ d ∈ tables_1, d.before a0 Z = true) : (Jvm.Cond.instanceMethod ({ cls := "java/lang/String", name := "<init>", desc := "(Ljava/lang/AbstractStringBuilder;Ljava/lang/Void;)V" } : Jvm.MethodName)).before a0 Z = true := hw _ (List.mem_of_getElem? (i := 137) rfl)
theorem tw138 {Z : State} {a0 : Array Value} (hw : ∀ d ∈ tables_1, d.before a0 Z = true) : (Jvm.Cond.code ({ cls := "java/lang/String", name := "<init>", desc := "(Ljava/lang/AbstractStringBuilder;Ljava/lang/Void;)V" } : Jvm.MethodName) jdk_42_method_150_code (5 : Nat) (Option.none : Option Jvm.ClassFile.FieldType)).before a0 Z = true := hw _ (List.mem_of_getElem? (i := 138) rfl)
theorem tw139 {Z : State} {a0 : Array Value} (hw : ∀ d ∈ tables_1, d.before a0 Z = true) : (Jvm.Cond.methodLink "java/lang/String" (552 : Nat) ({ cls := "java/lang/AbstractStringBuilder", name := "getValue", desc := "()[B" } : Jvm.MethodName)).before a0 Z = true := hw _ (List.mem_of_getElem? (i := 139) rfl)
theorem tw140 {Z : State} {a0 : Array Value} (hw : ∀ d ∈ tables_1, d.before a0 Z = true) : (Jvm.Cond.declares ({ cls := "java/lang/AbstractStringBuilder", name := "getValue", desc := "()[B" } : Jvm.MethodName)).before a0 Z = true := hw _ (List.mem_of_getElem? (i := 140) rfl)
theorem tw141 {Z : State} {a0 : Array Value} (hw : ∀ d ∈ tables_1, d.before a0 Z = true) : (Jvm.Cond.instanceMethod ({ cls := "java/lang/AbstractStringBuilder", name := "getValue", desc := "()[B" } : Jvm.MethodName)).before a0 Z = true := hw _ (List.mem_of_getElem? (i := 141) rfl)
theorem tw142 {Z : State} {a0 : Array Value} (hw : ∀ d ∈ tables_1, d.before a0 Z = true) : (Jvm.Cond.selects "java/lang/StringBuilder" ({ cls := "java/lang/AbstractStringBuilder", name := "getValue", desc := "()[B" } : Jvm.MethodName) ({ cls := "java/lang/AbstractStringBuilder", name := "getValue", desc := "()[B" } : Jvm.MethodName)).before a0 Z = true := hw _ (List.mem_of_getElem? (i := 142) rfl)
theorem tw143 {Z : State} {a0 : Array Value} (hw : ∀ d ∈ tables_1, d.before a0 Z = true) : (Jvm.Cond.code ({ cls := "java/lang/AbstractStringBuilder", name := "getValue", desc := "()[B" } : Jvm.MethodName) jdk_68_method_64_code (1 : Nat) (Option.some (Jvm.ClassFile.FieldType.array Jvm.ClassFile.FieldType.byte))).before a0 Z = true := hw _ (List.mem_of_getElem? (i := 143) rfl)
theorem tw144 {Z : State} {a0 : Array Value} (hw : ∀ d ∈ tables_1, d.before a0 Z = true) : (Jvm.Cond.methodLink "java/lang/String" (549 : Nat) ({ cls := "java/lang/AbstractStringBuilder", name := "length", desc := "()I" } : Jvm.MethodName)).before a0 Z = true := hw _ (List.mem_of_getElem? (i := 144) rfl)
theorem tw145 {Z : State} {a0 : Array Value} (hw : ∀ d ∈ tables_1, d.before a0 Z = true) : (Jvm.Cond.declares ({ cls := "java/lang/AbstractStringBuilder", name := "length", desc := "()I" } : Jvm.MethodName)).before a0 Z = true := hw _ (List.mem_of_getElem? (i := 145) rfl)
theorem tw146 {Z : State} {a0 : Array Value} (hw : ∀ d ∈ tables_1, d.before a0 Z = true) : (Jvm.Cond.instanceMethod ({ cls := "java/lang/AbstractStringBuilder", name := "length", desc := "()I" } : Jvm.MethodName)).before a0 Z = true := hw _ (List.mem_of_getElem? (i := 146) rfl)
theorem tw147 {Z : State} {a0 : Array Value} (hw : ∀ d ∈ tables_1, d.before a0 Z = true) : (Jvm.Cond.selects "java/lang/StringBuilder" ({ cls := "java/lang/AbstractStringBuilder", name := "length", desc := "()I" } : Jvm.MethodName) ({ cls := "java/lang/StringBuilder", name := "length", desc := "()I" } : Jvm.MethodName)).before a0 Z = true := hw _ (List.mem_of_getElem? (i := 147) rfl)
theorem tw148 {Z : State} {a0 : Array Value} (hw : ∀ d ∈ tables_1, d.before a0 Z = true) : (Jvm.Cond.instanceMethod ({ cls := "java/lang/StringBuilder", name := "length", desc := "()I" } : Jvm.MethodName)).before a0 Z = true := hw _ (List.mem_of_getElem? (i := 148) rfl)
theorem tw149 {Z : State} {a0 : Array Value} (hw : ∀ d ∈ tables_1, d.before a0 Z = true) : (Jvm.Cond.code ({ cls := "java/lang/StringBuilder", name := "length", desc := "()I" } : Jvm.MethodName) jdk_67_method_93_code (1 : Nat) (Option.some Jvm.ClassFile.FieldType.int)).before a0 Z = true := hw _ (List.mem_of_getElem? (i := 149) rfl)
theorem tw150 {Z : State} {a0 : Array Value} (hw : ∀ d ∈ tables_1, d.before a0 Z = true) : (Jvm.Cond.methodLink "java/lang/StringBuilder" (343 : Nat) ({ cls := "java/lang/AbstractStringBuilder", name := "length", desc := "()I" } : Jvm.MethodName)).before a0 Z = true := hw _ (List.mem_of_getElem? (i := 150) rfl)
theorem tw151 {Z : State} {a0 : Array Value} (hw : ∀ d ∈ tables_1, d.before a0 Z = true) : (Jvm.Cond.code ({ cls := "java/lang/AbstractStringBuilder", name := "length", desc := "()I" } : Jvm.MethodName) jdk_68_method_6_code (1 : Nat) (Option.some Jvm.ClassFile.FieldType.int)).before a0 Z = true := hw _ (List.mem_of_getElem? (i := 151) rfl)
theorem tw152 {Z : State} {a0 : Array Value} (hw : ∀ d ∈ tables_1, d.before a0 Z = true) : (Jvm.Cond.methodLink "java/lang/String" (1047 : Nat) ({ cls := "java/lang/AbstractStringBuilder", name := "isLatin1", desc := "()Z" } : Jvm.MethodName)).before a0 Z = true := hw _ (List.mem_of_getElem? (i := 152) rfl)
theorem tw153 {Z : State} {a0 : Array Value} (hw : ∀ d ∈ tables_1, d.before a0 Z = true) : (Jvm.Cond.declares ({ cls := "java/lang/AbstractStringBuilder", name := "isLatin1", desc := "()Z" } : Jvm.MethodName)).before a0 Z = true := hw _ (List.mem_of_getElem? (i := 153) rfl)
theorem tw154 {Z : State} {a0 : Array Value} (hw : ∀ d ∈ tables_1, d.before a0 Z = true) : (Jvm.Cond.instanceMethod ({ cls := "java/lang/AbstractStringBuilder", name := "isLatin1", desc := "()Z" } : Jvm.MethodName)).before a0 Z = true := hw _ (List.mem_of_getElem? (i := 154) rfl)
theorem tw155 {Z : State} {a0 : Array Value} (hw : ∀ d ∈ tables_1, d.before a0 Z = true) : (Jvm.Cond.selects "java/lang/StringBuilder" ({ cls := "java/lang/AbstractStringBuilder", name := "isLatin1", desc := "()Z" } : Jvm.MethodName) ({ cls := "java/lang/AbstractStringBuilder", name := "isLatin1", desc := "()Z" } : Jvm.MethodName)).before a0 Z = true := hw _ (List.mem_of_getElem? (i := 155) rfl)
theorem tw156 {Z : State} {a0 : Array Value} (hw : ∀ d ∈ tables_1, d.before a0 Z = true) : (Jvm.Cond.code ({ cls := "java/lang/AbstractStringBuilder", name := "isLatin1", desc := "()Z" } : Jvm.MethodName) jdk_68_method_68_code (1 : Nat) (Option.some Jvm.ClassFile.FieldType.boolean)).before a0 Z = true := hw _ (List.mem_of_getElem? (i := 156) rfl)
theorem tw157 {Z : State} {a0 : Array Value} (hw : ∀ d ∈ tables_1, d.before a0 Z = true) : (Jvm.Cond.methodLink "java/lang/String" (54 : Nat) ({ cls := "java/util/Arrays", name := "copyOfRange", desc := "([BII)[B" } : Jvm.MethodName)).before a0 Z = true := hw _ (List.mem_of_getElem? (i := 157) rfl)
theorem tw158 {Z : State} {a0 : Array Value} (hw : ∀ d ∈ tables_1, d.before a0 Z = true) : (Jvm.Cond.static ({ cls := "java/util/Arrays", name := "copyOfRange", desc := "([BII)[B" } : Jvm.MethodName)).before a0 Z = true := hw _ (List.mem_of_getElem? (i := 158) rfl)
theorem tw159 {Z : State} {a0 : Array Value} (hw : ∀ d ∈ tables_1, d.before a0 Z = true) : (Jvm.Cond.initialized "java/util/Arrays").before a0 Z = true := hw _ (List.mem_of_getElem? (i := 159) rfl)
theorem tw160 {Z : State} {a0 : Array Value} (hw : ∀ d ∈ tables_1, d.before a0 Z = true) : (Jvm.Cond.code ({ cls := "java/util/Arrays", name := "copyOfRange", desc := "([BII)[B" } : Jvm.MethodName) jdk_65_method_132_code (3 : Nat) (Option.some (Jvm.ClassFile.FieldType.array Jvm.ClassFile.FieldType.byte))).before a0 Z = true := hw _ (List.mem_of_getElem? (i := 160) rfl)
theorem tw161 {Z : State} {a0 : Array Value} (hw : ∀ d ∈ tables_1, d.before a0 Z = true) : (Jvm.Cond.methodLink "java/util/Arrays" (339 : Nat) ({ cls := "java/util/Arrays", name := "copyOfRangeByte", desc := "([BII)[B" } : Jvm.MethodName)).before a0 Z = true := hw _ (List.mem_of_getElem? (i := 161) rfl)
theorem tw162 {Z : State} {a0 : Array Value} (hw : ∀ d ∈ tables_1, d.before a0 Z = true) : (Jvm.Cond.static ({ cls := "java/util/Arrays", name := "copyOfRangeByte", desc := "([BII)[B" } : Jvm.MethodName)).before a0 Z = true := hw _ (List.mem_of_getElem? (i := 162) rfl)
theorem tw163 {Z : State} {a0 : Array Value} (hw : ∀ d ∈ tables_1, d.before a0 Z = true) : (Jvm.Cond.code ({ cls := "java/util/Arrays", name := "copyOfRangeByte", desc := "([BII)[B" } : Jvm.MethodName) jdk_65_method_133_code (5 : Nat) (Option.some (Jvm.ClassFile.FieldType.array Jvm.ClassFile.FieldType.byte))).before a0 Z = true := hw _ (List.mem_of_getElem? (i := 163) rfl)
theorem tw164 {Z : State} {a0 : Array Value} (hw : ∀ d ∈ tables_1, d.before a0 Z = true) : (Jvm.Cond.methodLink "java/util/Arrays" (343 : Nat) ({ cls := "java/util/Arrays", name := "checkLength", desc := "(II)V" } : Jvm.MethodName)).before a0 Z = true := hw _ (List.mem_of_getElem? (i := 164) rfl)
theorem tw165 {Z : State} {a0 : Array Value} (hw : ∀ d ∈ tables_1, d.before a0 Z = true) : (Jvm.Cond.static ({ cls := "java/util/Arrays", name := "checkLength", desc := "(II)V" } : Jvm.MethodName)).before a0 Z = true := hw _ (List.mem_of_getElem? (i := 165) rfl)
theorem tw166 {Z : State} {a0 : Array Value} (hw : ∀ d ∈ tables_1, d.before a0 Z = true) : (Jvm.Cond.code ({ cls := "java/util/Arrays", name := "checkLength", desc := "(II)V" } : Jvm.MethodName) jdk_65_method_131_code (2 : Nat) (Option.none : Option Jvm.ClassFile.FieldType)).before a0 Z = true := hw _ (List.mem_of_getElem? (i := 166) rfl)
theorem tw167 {Z : State} {a0 : Array Value} (hw : ∀ d ∈ tables_1, d.before a0 Z = true) : (Jvm.Cond.methodLink "java/util/Arrays" (304 : Nat) ({ cls := "java/lang/Math", name := "min", desc := "(II)I" } : Jvm.MethodName)).before a0 Z = true := hw _ (List.mem_of_getElem? (i := 167) rfl)
theorem tw168 {Z : State} {a0 : Array Value} (hw : ∀ d ∈ tables_1, d.before a0 Z = true) : (Jvm.Cond.static ({ cls := "java/lang/Math", name := "min", desc := "(II)I" } : Jvm.MethodName)).before a0 Z = true := hw _ (List.mem_of_getElem? (i := 168) rfl)
theorem tw169 {Z : State} {a0 : Array Value} (hw : ∀ d ∈ tables_1, d.before a0 Z = true) : (Jvm.Cond.initialized "java/lang/Math").before a0 Z = true := hw _ (List.mem_of_getElem? (i := 169) rfl)
theorem tw170 {Z : State} {a0 : Array Value} (hw : ∀ d ∈ tables_1, d.before a0 Z = true) : (Jvm.Cond.code ({ cls := "java/lang/Math", name := "min", desc := "(II)I" } : Jvm.MethodName) jdk_29_method_69_code (2 : Nat) (Option.some Jvm.ClassFile.FieldType.int)).before a0 Z = true := hw _ (List.mem_of_getElem? (i := 170) rfl)
theorem tw171 {Z : State} {a0 : Array Value} (hw : ∀ d ∈ tables_1, d.before a0 Z = true) : (Jvm.Cond.methodLink "java/util/Arrays" (150 : Nat) ({ cls := "java/lang/System", name := "arraycopy", desc := "(Ljava/lang/Object;ILjava/lang/Object;II)V" } : Jvm.MethodName)).before a0 Z = true := hw _ (List.mem_of_getElem? (i := 171) rfl)
theorem tw172 {Z : State} {a0 : Array Value} (hw : ∀ d ∈ tables_1, d.before a0 Z = true) : (Jvm.Cond.methodLink "com/example/grantgraph/grantgraph/store/ObjectRefToStringPinLaw" (22 : Nat) ({ cls := "java/lang/String", name := "length", desc := "()I" } : Jvm.MethodName)).before a0 Z = true := hw _ (List.mem_of_getElem? (i := 172) rfl)
theorem tw173 {Z : State} {a0 : Array Value} (hw : ∀ d ∈ tables_1, d.before a0 Z = true) : (Jvm.Cond.methodLink "com/example/grantgraph/grantgraph/store/ObjectRefToStringPinLaw" (28 : Nat) ({ cls := "com/example/grantgraph/grantgraph/store/ObjectRefToStringPinLaw", name := "ok", desc := "(Ljava/lang/String;IIIII)Z" } : Jvm.MethodName)).before a0 Z = true := hw _ (List.mem_of_getElem? (i := 173) rfl)
theorem tw174 {Z : State} {a0 : Array Value} (hw : ∀ d ∈ tables_1, d.before a0 Z = true) : (Jvm.Cond.static ({ cls := "com/example/grantgraph/grantgraph/store/ObjectRefToStringPinLaw", name := "ok", desc := "(Ljava/lang/String;IIIII)Z" } : Jvm.MethodName)).before a0 Z = true := hw _ (List.mem_of_getElem? (i := 174) rfl)
theorem tw175 {Z : State} {a0 : Array Value} (hw : ∀ d ∈ tables_1, d.before a0 Z = true) : (Jvm.Cond.code ({ cls := "com/example/grantgraph/grantgraph/store/ObjectRefToStringPinLaw", name := "ok", desc := "(Ljava/lang/String;IIIII)Z" } : Jvm.MethodName) method_3_code (7 : Nat) (Option.some Jvm.ClassFile.FieldType.boolean)).before a0 Z = true := hw _ (List.mem_of_getElem? (i := 175) rfl)
theorem tw176 {Z : State} {a0 : Array Value} (hw : ∀ d ∈ tables_1, d.before a0 Z = true) : (Jvm.Cond.methodLink "com/example/grantgraph/grantgraph/store/ObjectRefToStringPinLaw" (36 : Nat) ({ cls := "java/lang/String", name := "charAt", desc := "(I)C" } : Jvm.MethodName)).before a0 Z = true := hw _ (List.mem_of_getElem? (i := 176) rfl)
theorem tw177 {Z : State} {a0 : Array Value} (hw : ∀ d ∈ tables_1, d.before a0 Z = true) : (Jvm.Cond.declares ({ cls := "java/lang/String", name := "charAt", desc := "(I)C" } : Jvm.MethodName)).before a0 Z = true := hw _ (List.mem_of_getElem? (i := 177) rfl)
theorem tw178 {Z : State} {a0 : Array Value} (hw : ∀ d ∈ tables_1, d.before a0 Z = true) : (Jvm.Cond.instanceMethod ({ cls := "java/lang/String", name := "charAt", desc := "(I)C" } : Jvm.MethodName)).before a0 Z = true := hw _ (List.mem_of_getElem? (i := 178) rfl)
theorem tw179 {Z : State} {a0 : Array Value} (hw : ∀ d ∈ tables_1, d.before a0 Z = true) : (Jvm.Cond.selects "java/lang/String" ({ cls := "java/lang/String", name := "charAt", desc := "(I)C" } : Jvm.MethodName) ({ cls := "java/lang/String", name := "charAt", desc := "(I)C" } : Jvm.MethodName)).before a0 Z = true := hw _ (List.mem_of_getElem? (i := 179) rfl)
theorem tw180 {Z : State} {a0 : Array Value} (hw : ∀ d ∈ tables_1, d.before a0 Z = true) : (Jvm.Cond.code ({ cls := "java/lang/String", name := "charAt", desc := "(I)C" } : Jvm.MethodName) jdk_42_method_56_code (2 : Nat) (Option.some Jvm.ClassFile.FieldType.char)).before a0 Z = true := hw _ (List.mem_of_getElem? (i := 180) rfl)
theorem tw181 {Z : State} {a0 : Array Value} (hw : ∀ d ∈ tables_1, d.before a0 Z = true) : (Jvm.Cond.methodLink "java/lang/String" (492 : Nat) ({ cls := "java/lang/String", name := "isLatin1", desc := "()Z" } : Jvm.MethodName)).before a0 Z = true := hw _ (List.mem_of_getElem? (i := 181) rfl)
theorem tw182 {Z : State} {a0 : Array Value} (hw : ∀ d ∈ tables_1, d.before a0 Z = true) : (Jvm.Cond.declares ({ cls := "java/lang/String", name := "isLatin1", desc := "()Z" } : Jvm.MethodName)).before a0 Z = true := hw _ (List.mem_of_getElem? (i := 182) rfl)
theorem tw183 {Z : State} {a0 : Array Value} (hw : ∀ d ∈ tables_1, d.before a0 Z = true) : (Jvm.Cond.instanceMethod ({ cls := "java/lang/String", name := "isLatin1", desc := "()Z" } : Jvm.MethodName)).before a0 Z = true := hw _ (List.mem_of_getElem? (i := 183) rfl)
theorem tw184 {Z : State} {a0 : Array Value} (hw : ∀ d ∈ tables_1, d.before a0 Z = true) : (Jvm.Cond.selects "java/lang/String" ({ cls := "java/lang/String", name := "isLatin1", desc := "()Z" } : Jvm.MethodName) ({ cls := "java/lang/String", name := "isLatin1", desc := "()Z" } : Jvm.MethodName)).before a0 Z = true := hw _ (List.mem_of_getElem? (i := 184) rfl)
theorem tw185 {Z : State} {a0 : Array Value} (hw : ∀ d ∈ tables_1, d.before a0 Z = true) : (Jvm.Cond.code ({ cls := "java/lang/String", name := "isLatin1", desc := "()Z" } : Jvm.MethodName) jdk_42_method_154_code (1 : Nat) (Option.some Jvm.ClassFile.FieldType.boolean)).before a0 Z = true := hw _ (List.mem_of_getElem? (i := 185) rfl)
theorem tw186 {Z : State} {a0 : Array Value} (hw : ∀ d ∈ tables_1, d.before a0 Z = true) : (Jvm.Cond.methodLink "java/lang/String" (495 : Nat) ({ cls := "java/lang/StringLatin1", name := "charAt", desc := "([BI)C" } : Jvm.MethodName)).before a0 Z = true := hw _ (List.mem_of_getElem? (i := 186) rfl)
theorem tw187 {Z : State} {a0 : Array Value} (hw : ∀ d ∈ tables_1, d.before a0 Z = true) : (Jvm.Cond.static ({ cls := "java/lang/StringLatin1", name := "charAt", desc := "([BI)C" } : Jvm.MethodName)).before a0 Z = true := hw _ (List.mem_of_getElem? (i := 187) rfl)
theorem tw188 {Z : State} {a0 : Array Value} (hw : ∀ d ∈ tables_1, d.before a0 Z = true) : (Jvm.Cond.initialized "java/lang/StringLatin1").before a0 Z = true := hw _ (List.mem_of_getElem? (i := 188) rfl)
theorem tw189 {Z : State} {a0 : Array Value} (hw : ∀ d ∈ tables_1, d.before a0 Z = true) : (Jvm.Cond.code ({ cls := "java/lang/StringLatin1", name := "charAt", desc := "([BI)C" } : Jvm.MethodName) jdk_43_method_2_code (2 : Nat) (Option.some Jvm.ClassFile.FieldType.char)).before a0 Z = true := hw _ (List.mem_of_getElem? (i := 189) rfl)
theorem tw190 {Z : State} {a0 : Array Value} (hw : ∀ d ∈ tables_1, d.before a0 Z = true) : (Jvm.Cond.methodLink "java/lang/StringLatin1" (9 : Nat) ({ cls := "java/lang/String", name := "checkIndex", desc := "(II)V" } : Jvm.MethodName)).before a0 Z = true := hw _ (List.mem_of_getElem? (i := 190) rfl)
theorem tw191 {Z : State} {a0 : Array Value} (hw : ∀ d ∈ tables_1, d.before a0 Z = true) : (Jvm.Cond.static ({ cls := "java/lang/String", name := "checkIndex", desc := "(II)V" } : Jvm.MethodName)).before a0 Z = true := hw _ (List.mem_of_getElem? (i := 191) rfl)
theorem tw192 {Z : State} {a0 : Array Value} (hw : ∀ d ∈ tables_1, d.before a0 Z = true) : (Jvm.Cond.code ({ cls := "java/lang/String", name := "checkIndex", desc := "(II)V" } : Jvm.MethodName) jdk_42_method_155_code (2 : Nat) (Option.none : Option Jvm.ClassFile.FieldType)).before a0 Z = true := hw _ (List.mem_of_getElem? (i := 192) rfl)
theorem tw193 {Z : State} {a0 : Array Value} (hw : ∀ d ∈ tables_1, d.before a0 Z = true) : (Jvm.Cond.fieldLink "java/lang/String" (1053 : Nat) "jdk/internal/util/Preconditions" "SIOOBE_FORMATTER" "Ljava/util/function/BiFunction;").before a0 Z = true := hw _ (List.mem_of_getElem? (i := 193) rfl)
theorem tw194 {Z : State} {a0 : Array Value} (hw : ∀ d ∈ tables_1, d.before a0 Z = true) : (Jvm.Cond.initialized "jdk/internal/util/Preconditions").before a0 Z = true := hw _ (List.mem_of_getElem? (i := 194) rfl)
theorem tw195 {Z : State} {a0 : Array Value} (hw : ∀ d ∈ tables_1, d.before a0 Z = true) : (Jvm.Cond.methodLink "java/lang/String" (1059 : Nat) ({ cls := "jdk/internal/util/Preconditions", name := "checkIndex", desc := "(IILjava/util/function/BiFunction;)I" } : Jvm.MethodName)).before a0 Z = true := hw _ (List.mem_of_getElem? (i := 195) rfl)
theorem tw196 {Z : State} {a0 : Array Value} (hw : ∀ d ∈ tables_1, d.before a0 Z = true) : (Jvm.Cond.static ({ cls := "jdk/internal/util/Preconditions", name := "checkIndex", desc := "(IILjava/util/function/BiFunction;)I" } : Jvm.MethodName)).before a0 Z = true := hw _ (List.mem_of_getElem? (i := 196) rfl)
theorem tw197 {Z : State} {a0 : Array Value} (hw : ∀ d ∈ tables_1, d.before a0 Z = true) : (Jvm.Cond.code ({ cls := "jdk/internal/util/Preconditions", name := "checkIndex", desc := "(IILjava/util/function/BiFunction;)I" } : Jvm.MethodName) jdk_41_method_11_code (3 : Nat) (Option.some Jvm.ClassFile.FieldType.int)).before a0 Z = true := hw _ (List.mem_of_getElem? (i := 197) rfl)
theorem pd_0 : parseMethodDescriptor "(IILjava/util/function/BiFunction;)I" = some ⟨[.int, .int, (.object "java/util/function/BiFunction")], some .int⟩ := by decide +kernel
theorem pd_1 : parseMethodDescriptor "([CIILjava/lang/Void;)V" = some ⟨[(.array .char), .int, .int, (.object "java/lang/Void")], none⟩ := by decide +kernel
theorem pd_2 : parseMethodDescriptor "([C)V" = some ⟨[(.array .char)], none⟩ := by decide +kernel
theorem pd_3 : parseMethodDescriptor "(II)Ljava/lang/String;" = some ⟨[.int, .int], some (.object "java/lang/String")⟩ := by decide +kernel
theorem pd_4 : parseMethodDescriptor "()V" = some ⟨[], none⟩ := by decide +kernel
theorem pd_5 : parseMethodDescriptor "(Ljava/lang/String;Ljava/lang/String;)V" = some ⟨[(.object "java/lang/String"), (.object "java/lang/String")], none⟩ := by decide +kernel
theorem pd_6 : parseMethodDescriptor "(I)V" = some ⟨[.int], none⟩ := by decide +kernel
theorem pd_7 : parseMethodDescriptor "()B" = some ⟨[], some .byte⟩ := by decide +kernel
theorem pd_8 : parseMethodDescriptor "()I" = some ⟨[], some .int⟩ := by decide +kernel
theorem pd_9 : parseMethodDescriptor "(Ljava/lang/String;)V" = some ⟨[(.object "java/lang/String")], none⟩ := by decide +kernel
theorem pd_10 : parseMethodDescriptor "([BIB)V" = some ⟨[(.array .byte), .int, .byte], none⟩ := by decide +kernel
theorem pd_11 : parseMethodDescriptor "(ILjava/lang/String;)V" = some ⟨[.int, (.object "java/lang/String")], none⟩ := by decide +kernel
theorem pd_12 : parseMethodDescriptor "(Ljava/lang/String;)Ljava/lang/AbstractStringBuilder;" = some ⟨[(.object "java/lang/String")], some (.object "java/lang/AbstractStringBuilder")⟩ := by decide +kernel
theorem pd_13 : parseMethodDescriptor "(Ljava/lang/String;)Ljava/lang/StringBuilder;" = some ⟨[(.object "java/lang/String")], some (.object "java/lang/StringBuilder")⟩ := by decide +kernel
theorem pd_14 : parseMethodDescriptor "()[B" = some ⟨[], some (.array .byte)⟩ := by decide +kernel
theorem pd_15 : parseMethodDescriptor "()Z" = some ⟨[], some .boolean⟩ := by decide +kernel
theorem pd_16 : parseMethodDescriptor "(II)V" = some ⟨[.int, .int], none⟩ := by decide +kernel
theorem pd_17 : parseMethodDescriptor "(II)I" = some ⟨[.int, .int], some .int⟩ := by decide +kernel
theorem pd_18 : parseMethodDescriptor "([BII)[B" = some ⟨[(.array .byte), .int, .int], some (.array .byte)⟩ := by decide +kernel
theorem pd_19 : parseMethodDescriptor "(Ljava/lang/AbstractStringBuilder;Ljava/lang/Void;)V" = some ⟨[(.object "java/lang/AbstractStringBuilder"), (.object "java/lang/Void")], none⟩ := by decide +kernel
theorem pd_20 : parseMethodDescriptor "(Ljava/lang/StringBuilder;)V" = some ⟨[(.object "java/lang/StringBuilder")], none⟩ := by decide +kernel
theorem pd_21 : parseMethodDescriptor "()Ljava/lang/String;" = some ⟨[], some (.object "java/lang/String")⟩ := by decide +kernel
theorem pd_22 : parseMethodDescriptor "([BI)C" = some ⟨[(.array .byte), .int], some .char⟩ := by decide +kernel
theorem pd_23 : parseMethodDescriptor "(I)C" = some ⟨[.int], some .char⟩ := by decide +kernel
theorem pd_24 : parseMethodDescriptor "(Ljava/lang/String;IIIII)Z" = some ⟨[(.object "java/lang/String"), .int, .int, .int, .int, .int], some .boolean⟩ := by decide +kernel
theorem pd_25 : parseMethodDescriptor "(II)C" = some ⟨[.int, .int], some .char⟩ := by decide +kernel
theorem pd_26 : parseMethodDescriptor "([CI[BII)I" = some ⟨[(.array .char), .int, (.array .byte), .int, .int], some .int⟩ := by decide +kernel
theorem pd_27 : parseMethodDescriptor "([CII)[B" = some ⟨[(.array .char), .int, .int], some (.array .byte)⟩ := by decide +kernel
theorem pd_28 : parseMethodDescriptor "([BI)B" = some ⟨[(.array .byte), .int], some .byte⟩ := by decide +kernel
theorem own_wS {Z : State} {a0 : Array Value} (hw : ∀ d ∈ tables_1, d.before a0 Z = true) : ∀ a ∈ Bundle.stringAtoms, a.before a0 Z = true := fun d hd => by
  simp only [Bundle.stringAtoms, Bundle.sN, List.mem_cons, List.not_mem_nil, or_false] at hd
  rcases hd with rfl | rfl | rfl | rfl | rfl | rfl | rfl
  · exact hw _ (List.mem_of_getElem? (i := 6) rfl)
  · exact hw _ (List.mem_of_getElem? (i := 5) rfl)
  · exact hw _ (List.mem_of_getElem? (i := 26) rfl)
  · exact hw _ (List.mem_of_getElem? (i := 36) rfl)
  · exact hw _ (List.mem_of_getElem? (i := 34) rfl)
  · exact hw _ (List.mem_of_getElem? (i := 38) rfl)
  · exact hw _ (List.mem_of_getElem? (i := 39) rfl)
theorem own_EW {Z : State} {a0 : Array Value} (hw : ∀ d ∈ tables_1, d.before a0 Z = true) : EW Z a0 consts_1 := (EW.cons (hw _ (List.mem_of_getElem? (i := 126) rfl)) (by decide) (EW.cons (hw _ (List.mem_of_getElem? (i := 37) rfl)) (by decide) EW.nil))
theorem own_Nots {Z : State} {a0 : Array Value} (hw : ∀ d ∈ tables_1, d.before a0 Z = true) (n : Nat) (hn : ∀ k ∈ [(1 : Nat), (0 : Nat)], k ≠ n) : own_Not Z a0 consts_1 n := (own_Not.cons (hw _ (List.mem_of_getElem? (i := 126) rfl)) (by decide) (hn 1 (List.mem_of_getElem? (i := 0) rfl)) (own_Not.cons (hw _ (List.mem_of_getElem? (i := 37) rfl)) (by decide) (hn 0 (List.mem_of_getElem? (i := 1) rfl)) own_Not.nil))
theorem pn_0 : plainName "jdk/internal/util/Preconditions" = true := by first | (simp [plainName, overriddenIn]; done) | decide +kernel
theorem pn_1 : plainName "java/lang/String" = true := by first | (simp [plainName, overriddenIn]; done) | decide +kernel
theorem pn_2 : plainName "com/example/grantgraph/grantgraph/store/ObjectRefToStringPinLaw" = true := by first | (simp [plainName, overriddenIn]; done) | decide +kernel
theorem pn_3 : plainName "java/lang/Record" = true := by first | (simp [plainName, overriddenIn]; done) | decide +kernel
theorem pn_4 : plainName "com/example/grantgraph/grantgraph/store/ObjectRef" = true := by first | (simp [plainName, overriddenIn]; done) | decide +kernel
theorem pn_5 : plainName "java/lang/AbstractStringBuilder" = true := by first | (simp [plainName, overriddenIn]; done) | decide +kernel
theorem pn_6 : plainName "java/lang/StringBuilder" = true := by first | (simp [plainName, overriddenIn]; done) | decide +kernel
theorem pn_7 : plainName "java/util/Arrays" = true := by first | (simp [plainName, overriddenIn]; done) | decide +kernel
theorem pn_8 : plainName "java/lang/StringLatin1" = true := by first | (simp [plainName, overriddenIn]; done) | decide +kernel
theorem pn_9 : plainName "java/lang/StringUTF16" = true := by first | (simp [plainName, overriddenIn]; done) | decide +kernel
abbrev xs0 : String := "com/example/grantgraph/grantgraph/store/ObjectRefToStringPinLaw"
abbrev xs1 : String := "(Ljava/lang/String;)Ljava/lang/AbstractStringBuilder;"
abbrev xs2 : String := "(Ljava/lang/AbstractStringBuilder;Ljava/lang/Void;)V"
abbrev xs3 : String := "com/example/grantgraph/grantgraph/store/ObjectRef"
abbrev xs4 : String := "(Ljava/lang/String;)Ljava/lang/StringBuilder;"
abbrev xs5 : String := "(Ljava/lang/String;Ljava/lang/String;)V"
abbrev xs6 : String := "(IILjava/util/function/BiFunction;)I"
abbrev xs7 : String := "jdk/internal/util/Preconditions"
abbrev xs8 : String := "Ljava/util/function/BiFunction;"
abbrev xs9 : String := "java/lang/AbstractStringBuilder"
abbrev xs10 : String := "(Ljava/lang/StringBuilder;)V"
abbrev xs11 : String := "(Ljava/lang/String;IIIII)Z"
abbrev xs12 : String := "([CIILjava/lang/Void;)V"
abbrev xs13 : String := "java/lang/StringBuilder"
abbrev xs14 : String := "(II)Ljava/lang/String;"
abbrev xs15 : String := "ensureCapacityInternal"
abbrev xs16 : String := "(ILjava/lang/String;)V"
abbrev xs17 : String := "java/lang/StringLatin1"
abbrev xs18 : String := "(Ljava/lang/String;)V"
abbrev xs19 : String := "java/lang/StringUTF16"
abbrev xs20 : String := "()Ljava/lang/String;"
abbrev xs21 : String := "Ljava/lang/String;"
abbrev xs22 : String := "inflateIfNeededFor"
abbrev xs23 : String := "coderFromArrayLen"
abbrev xs24 : String := "SIOOBE_FORMATTER"
abbrev xs25 : String := "java/lang/String"
abbrev xs26 : String := "java/lang/Record"
abbrev xs27 : String := "java/util/Arrays"
abbrev xs28 : String := "COMPACT_STRINGS"
abbrev xs29 : String := "copyOfRangeByte"
abbrev xs30 : String := "java/lang/Math"
abbrev xm0 : MethodName := (⟨xs27, "copyOfRange", "([BII)[B"⟩ : MethodName)
abbrev xm1 : MethodName := (⟨xs19, "compress", "([CI[BII)I"⟩ : MethodName)
abbrev xm2 : MethodName := (⟨xs27, "checkLength", "(II)V"⟩ : MethodName)
abbrev xm3 : MethodName := (⟨xs19, "compress", "([CII)[B"⟩ : MethodName)
abbrev xm4 : MethodName := (⟨xs25, "checkIndex", "(II)V"⟩ : MethodName)
abbrev xm5 : MethodName := (⟨xs25, "getBytes", "([BIB)V"⟩ : MethodName)
abbrev xm6 : MethodName := (⟨xs9, "putStringAt", xs16⟩ : MethodName)
abbrev xm7 : MethodName := (⟨xs17, "charAt", "([BI)C"⟩ : MethodName)
abbrev xm8 : MethodName := (⟨xs25, "<init>", "([C)V"⟩ : MethodName)
abbrev xm9 : MethodName := (⟨xs9, "getValue", "()[B"⟩ : MethodName)
abbrev xm10 : MethodName := (⟨xs25, "isLatin1", "()Z"⟩ : MethodName)
abbrev xm11 : MethodName := (⟨xs7, "checkIndex", xs6⟩ : MethodName)
abbrev xm12 : MethodName := (⟨xs9, "isLatin1", "()Z"⟩ : MethodName)
abbrev xm13 : MethodName := (⟨xs27, xs29, "([BII)[B"⟩ : MethodName)
abbrev xm14 : MethodName := (⟨xs13, "toString", xs20⟩ : MethodName)
abbrev xm15 : MethodName := (⟨xs25, "charAt", "(I)C"⟩ : MethodName)
abbrev xm16 : MethodName := (⟨xs26, "<init>", "()V"⟩ : MethodName)
abbrev xm17 : MethodName := (⟨xs9, "<init>", "(I)V"⟩ : MethodName)
abbrev xm18 : MethodName := (⟨xs13, "<init>", "()V"⟩ : MethodName)
abbrev xm19 : MethodName := (⟨xs25, "length", "()I"⟩ : MethodName)
abbrev xm20 : MethodName := (⟨xs13, "length", "()I"⟩ : MethodName)
abbrev xm21 : MethodName := (⟨xs3, "toString", xs20⟩ : MethodName)
abbrev xm22 : MethodName := (⟨xs25, "<init>", xs12⟩ : MethodName)
abbrev xm23 : MethodName := (⟨xs25, "coder", "()B"⟩ : MethodName)
abbrev xm24 : MethodName := (⟨xs9, "length", "()I"⟩ : MethodName)
abbrev xm25 : MethodName := (⟨xs30, "min", "(II)I"⟩ : MethodName)
abbrev xm26 : MethodName := (⟨xs25, "<init>", xs10⟩ : MethodName)
abbrev xm27 : MethodName := (⟨xs19, xs23, "([BI)B"⟩ : MethodName)
abbrev xm28 : MethodName := (⟨xs13, "append", xs4⟩ : MethodName)
abbrev xm29 : MethodName := (⟨xs25, "<init>", xs2⟩ : MethodName)
abbrev xm30 : MethodName := (⟨xs0, "ch", "(II)C"⟩ : MethodName)
abbrev xm31 : MethodName := (⟨xs3, "<init>", xs5⟩ : MethodName)
abbrev xm32 : MethodName := (⟨xs9, "append", xs1⟩ : MethodName)
abbrev xm33 : MethodName := (⟨xs0, "make", xs14⟩ : MethodName)
abbrev xm34 : MethodName := (⟨xs9, xs15, "(I)V"⟩ : MethodName)
abbrev xm35 : MethodName := (⟨xs9, xs22, xs18⟩ : MethodName)
abbrev xm36 : MethodName := (⟨xs0, "ok", xs11⟩ : MethodName)
abbrev xr0 : Room := ({ frames := 3, cells := 6, slots := 12, locals := 43 } : Room)
abbrev xr1 : Room := ({ frames := 1, cells := 1, slots := 16, locals := 12 } : Room)
abbrev xr2 : Room := ({ frames := 2, cells := 1, slots := 16, locals := 25 } : Room)
abbrev xr3 : Room := ({ frames := 1, cells := 1, slots := 16, locals := 18 } : Room)
abbrev xr4 : Room := ({ frames := 2, cells := 1, slots := 16, locals := 34 } : Room)
abbrev xr5 : Room := ({ frames := 3, cells := 1, slots := 16, locals := 49 } : Room)
abbrev xr6 : Room := ({ frames := 4, cells := 1, slots := 16, locals := 65 } : Room)
abbrev xr7 : Room := ({ frames := 5, cells := 2, slots := 20, locals := 79 } : Room)
abbrev xr8 : Room := ({ frames := 6, cells := 6, slots := 48, locals := 91 } : Room)
abbrev xr9 : Room := ({ frames := 4, cells := 3, slots := 10, locals := 66 } : Room)
abbrev xr10 : Room := ({ frames := 1, cells := 0, slots := 0, locals := 14 } : Room)
abbrev xr11 : Room := ({ frames := 1, cells := 4, slots := 8, locals := 12 } : Room)
abbrev xr12 : Room := ({ frames := 2, cells := 4, slots := 8, locals := 29 } : Room)
abbrev xr13 : Room := ({ frames := 1, cells := 0, slots := 0, locals := 12 } : Room)
abbrev xr14 : Room := ({ frames := 2, cells := 0, slots := 0, locals := 24 } : Room)
abbrev xr15 : Room := ({ frames := 1, cells := 0, slots := 0, locals := 13 } : Room)
abbrev xr16 : Room := ({ frames := 1, cells := 0, slots := 0, locals := 18 } : Room)
abbrev xr17 : Room := ({ frames := 2, cells := 0, slots := 0, locals := 33 } : Room)
abbrev xr18 : Room := ({ frames := 3, cells := 0, slots := 0, locals := 47 } : Room)
abbrev xr19 : Room := ({ frames := 4, cells := 0, slots := 0, locals := 61 } : Room)
abbrev xr20 : Room := ({ frames := 2, cells := 0, slots := 0, locals := 27 } : Room)
abbrev xr21 : Room := ({ frames := 3, cells := 0, slots := 0, locals := 40 } : Room)
abbrev xr22 : Room := ({ frames := 4, cells := 0, slots := 0, locals := 53 } : Room)
abbrev xr23 : Room := ({ frames := 1, cells := 1, slots := 1, locals := 18 } : Room)
abbrev xr24 : Room := ({ frames := 2, cells := 1, slots := 1, locals := 35 } : Room)
abbrev xr25 : Room := ({ frames := 3, cells := 1, slots := 1, locals := 52 } : Room)
abbrev xr26 : Room := ({ frames := 4, cells := 3, slots := 6, locals := 66 } : Room)
abbrev xr27 : Room := ({ frames := 1, cells := 1, slots := 2, locals := 18 } : Room)
abbrev xr28 : Room := ({ frames := 2, cells := 1, slots := 2, locals := 35 } : Room)
abbrev xr29 : Room := ({ frames := 3, cells := 1, slots := 2, locals := 52 } : Room)
abbrev xr30 : Room := ({ frames := 4, cells := 3, slots := 8, locals := 66 } : Room)
abbrev xr31 : Room := ({ frames := 1, cells := 1, slots := 3, locals := 18 } : Room)
abbrev xr32 : Room := ({ frames := 2, cells := 1, slots := 3, locals := 35 } : Room)
abbrev xr33 : Room := ({ frames := 3, cells := 1, slots := 3, locals := 52 } : Room)
abbrev xr34 : Room := ({ frames := 0, cells := 0, slots := 0, locals := 0 } : Room)
abbrev ci0 : Int32 := 0
abbrev cv0 : Value := .int 0
abbrev ci1 : Int32 := 1
abbrev cv1 : Value := .int 1
abbrev ci2 : Int32 := 2
abbrev cv2 : Value := .int 2
abbrev ci3 : Int32 := 3
abbrev cv3 : Value := .int 3
abbrev ci4 : Int32 := 4
abbrev cv4 : Value := .int 4
abbrev ci5 : Int32 := 5
abbrev cv5 : Value := .int 5
abbrev ci6 : Int32 := 6
abbrev cv6 : Value := .int 6
abbrev ci7 : Int32 := 7
abbrev cv7 : Value := .int 7
abbrev ci8 : Int32 := 8
abbrev cv8 : Value := .int 8
abbrev ci16 : Int32 := 16
abbrev cv16 : Value := .int 16
abbrev ci58 : Int32 := 58
abbrev cv58 : Value := .int 58
abbrev ci255 : Int32 := 255
abbrev cv255 : Value := .int 255
abbrev vi (x : Int32) : Slot := .val (.int x)
abbrev vr (a : Addr) : Slot := .val (.ref a)
theorem ef_pchk_n (m : MethodId) (x0 : Int32) (x1 : Int32) : entryFrame m #[(.int x0), (.int x1), .null] 3 = mkF m 0 #[vi x0, vi x1, .val .null] [] := by first | (simp [entryFrame, mkF, argsToLocals, Value.category]; done) | rfl
def Q_pchk_n (Z : State) (ix : Int32) (ln : Int32) (h0 : Heap) (n0 : Nat) (v : Option Value) (h : Heap) (L : List Loc) : Prop := v = some (.int ix) ∧ Fr n0 L ∧ h = h0
set_option maxRecDepth 65536 in
set_option maxHeartbeats 40000000 in
theorem rm_pchk_n (l : Launch) (Z : State) (a0 : Array Value) (hw : ∀ d ∈ tables_1, d.before a0 Z = true) (ws : List Jvm.Cond) (ix : Int32) (ln : Int32) (h0 : Heap) (n0 : Nat) (Z0 : n0 ≤ h0.size) (h1 : ¬ ix < ci0) (h2 : ix < ln) :
    MetFree l xm11 (head1 (Jvm.Cond.code xm11 jdk_41_method_11_code 3 (some .int) :: ws) xr34) (fun a U => a = #[(.int ix), (.int ln), .null] ∧ Z.Warmed39 U.vm ∧ U.heap = h0) (fun _ _ _ _ _ => True) (fun _ U o U' => ∃ v L, o = .returned v ∧ Q_pchk_n Z ix ln h0 n0 v U'.heap L ∧ FrameEnd U o U' L xr34.cells xr34.slots) := by
  refine MetFree.of_bodySF (plainFor_of_name pn_0) hisR ?_
  intro p e s m args below meth c s₁ Bd hml0 hP hK
  obtain ⟨rfl, hZ, hh⟩ := hP
  have hx := Bd.exec
  have hby := Bd.bytes
  have hlk : meth.locks = false := BodyLoose.notSynchronized Bd
  have hml : c.maxLocals = 3 := hml0
  have hown : s.vm.findClass xs7 = some m.cls := findClass_of_methodNamed Bd.named
  have hnm := (name_of_methodNamed Bd.named Bd.method).1
  have X0 : Stand p l e xr34 s m #[(.int ix), (.int ln), .null] below meth c s₁ [] 0 0 := Stand.of_body Bd
  have e0 : s₁.heap = h0 := by rw [← hh, Bd.state]; rfl
  have N0 := Fr.nil n0
  show Go p e below s (Q_pchk_n Z ix ln h0 n0) xr34.cells xr34.slots s₁ (entryFrame m #[(.int ix), (.int ln), .null] 3)
  refine Go.cast (ef_pchk_n m ix ln) ?_
  show Go p e below s _ _ _ s₁ (mkF m 0 #[vi ix, vi ln, .val .null] [])
  refine Go.step (fun _ k => XS.iloadN X0.here hx rfl (hb hby d0_0) rfl (XS.ifNo X0.here hx rfl (hb hby d0_1) rfl ((if0 _ _).trans (flt h1).1) (XS.iloadN X0.here hx rfl (hb hby d0_4) rfl (XS.iloadN X0.here hx rfl (hb hby d0_5) rfl (XS.icmpYes X0.here hx rfl (pc0 := 6) (pc' := 16) rfl (hb hby d0_6) rfl (tlt h2).1 (by decide) (by decide) (XS.iloadN X0.here hx rfl (hb hby d0_16) rfl k)))))) ?_
  show Go p e below s _ _ _ s₁ (mkF m 17 #[vi ix, vi ln, .val .null] [(.int ix)])
  exact Go.retI X0 hx hlk Bd.returns (hb hby d0_17) e0 ⟨rfl, N0, rfl⟩ (by decide) (by decide)

theorem ef_pchk_r (m : MethodId) (x0 : Int32) (x1 : Int32) (x2 : Addr) : entryFrame m #[(.int x0), (.int x1), (.ref x2)] 3 = mkF m 0 #[vi x0, vi x1, vr x2] [] := by first | (simp [entryFrame, mkF, argsToLocals, Value.category]; done) | rfl
def Q_pchk_r (Z : State) (ix : Int32) (ln : Int32) (fa : Addr) (h0 : Heap) (n0 : Nat) (v : Option Value) (h : Heap) (L : List Loc) : Prop := v = some (.int ix) ∧ Fr n0 L ∧ h = h0
set_option maxRecDepth 65536 in
set_option maxHeartbeats 40000000 in
theorem rm_pchk_r (l : Launch) (Z : State) (a0 : Array Value) (hw : ∀ d ∈ tables_1, d.before a0 Z = true) (ws : List Jvm.Cond) (ix : Int32) (ln : Int32) (fa : Addr) (h0 : Heap) (n0 : Nat) (Z0 : n0 ≤ h0.size) (h1 : ¬ ix < ci0) (h2 : ix < ln) :
    MetFree l xm11 (head1 (Jvm.Cond.code xm11 jdk_41_method_11_code 3 (some .int) :: ws) xr34) (fun a U => a = #[(.int ix), (.int ln), (.ref fa)] ∧ Z.Warmed39 U.vm ∧ U.heap = h0) (fun _ _ _ _ _ => True) (fun _ U o U' => ∃ v L, o = .returned v ∧ Q_pchk_r Z ix ln fa h0 n0 v U'.heap L ∧ FrameEnd U o U' L xr34.cells xr34.slots) := by
  refine MetFree.of_bodySF (plainFor_of_name pn_0) hisR ?_
  intro p e s m args below meth c s₁ Bd hml0 hP hK
  obtain ⟨rfl, hZ, hh⟩ := hP
  have hx := Bd.exec
  have hby := Bd.bytes
  have hlk : meth.locks = false := BodyLoose.notSynchronized Bd
  have hml : c.maxLocals = 3 := hml0
  have hown : s.vm.findClass xs7 = some m.cls := findClass_of_methodNamed Bd.named
  have hnm := (name_of_methodNamed Bd.named Bd.method).1
  have X0 : Stand p l e xr34 s m #[(.int ix), (.int ln), (.ref fa)] below meth c s₁ [] 0 0 := Stand.of_body Bd
  have e0 : s₁.heap = h0 := by rw [← hh, Bd.state]; rfl
  have N0 := Fr.nil n0
  show Go p e below s (Q_pchk_r Z ix ln fa h0 n0) xr34.cells xr34.slots s₁ (entryFrame m #[(.int ix), (.int ln), (.ref fa)] 3)
  refine Go.cast (ef_pchk_r m ix ln fa) ?_
  show Go p e below s _ _ _ s₁ (mkF m 0 #[vi ix, vi ln, vr fa] [])
  refine Go.step (fun _ k => XS.iloadN X0.here hx rfl (hb hby d0_0) rfl (XS.ifNo X0.here hx rfl (hb hby d0_1) rfl ((if0 _ _).trans (flt h1).1) (XS.iloadN X0.here hx rfl (hb hby d0_4) rfl (XS.iloadN X0.here hx rfl (hb hby d0_5) rfl (XS.icmpYes X0.here hx rfl (pc0 := 6) (pc' := 16) rfl (hb hby d0_6) rfl (tlt h2).1 (by decide) (by decide) (XS.iloadN X0.here hx rfl (hb hby d0_16) rfl k)))))) ?_
  show Go p e below s _ _ _ s₁ (mkF m 17 #[vi ix, vi ln, vr fa] [(.int ix)])
  exact Go.retI X0 hx hlk Bd.returns (hb hby d0_17) e0 ⟨rfl, N0, rfl⟩ (by decide) (by decide)

theorem ef_schk (m : MethodId) (x0 : Int32) (x1 : Int32) : entryFrame m #[(.int x0), (.int x1)] 2 = mkF m 0 #[vi x0, vi x1] [] := by first | (simp [entryFrame, mkF, argsToLocals, Value.category]; done) | rfl
def Q_schk (Z : State) (ix : Int32) (ln : Int32) (fv : Value) (h0 : Heap) (n0 : Nat) (v : Option Value) (h : Heap) (L : List Loc) : Prop := v = none ∧ Fr n0 L ∧ h = h0
set_option maxRecDepth 65536 in
set_option maxHeartbeats 40000000 in
theorem rm_schk (l : Launch) (Z : State) (a0 : Array Value) (hw : ∀ d ∈ tables_1, d.before a0 Z = true) (ws : List Jvm.Cond) (ix : Int32) (ln : Int32) (fv : Value) (h0 : Heap) (n0 : Nat) (Z0 : n0 ≤ h0.size) (O0 : Old Z n0 h0) (Z_S_SIOOBE_FORMATTER : Sta Z Z.heap xs7 xs24 xs8 fv) (hfv : fv.isRef = true) (h1 : ¬ ix < ci0) (h2 : ix < ln) :
    MetFree l xm4 (head1 (Jvm.Cond.code xm4 jdk_42_method_155_code 2 none :: ws) xr10) (fun a U => a = #[(.int ix), (.int ln)] ∧ Z.Warmed39 U.vm ∧ U.heap = h0) (fun _ _ _ _ _ => True) (fun _ U o U' => ∃ v L, o = .returned v ∧ Q_schk Z ix ln fv h0 n0 v U'.heap L ∧ FrameEnd U o U' L xr10.cells xr10.slots) := by
  refine MetFree.of_bodySF (plainFor_of_name pn_1) hisR ?_
  intro p e s m args below meth c s₁ Bd hml0 hP hK
  obtain ⟨rfl, hZ, hh⟩ := hP
  have hx := Bd.exec
  have hby := Bd.bytes
  have hlk : meth.locks = false := BodyLoose.notSynchronized Bd
  have hml : c.maxLocals = 2 := hml0
  have hown : s.vm.findClass xs25 = some m.cls := findClass_of_methodNamed Bd.named
  have hnm := (name_of_methodNamed Bd.named Bd.method).1
  have X0 : Stand p l e xr10 s m #[(.int ix), (.int ln)] below meth c s₁ [] 0 0 := Stand.of_body Bd
  have e0 : s₁.heap = h0 := by rw [← hh, Bd.state]; rfl
  have N0 := Fr.nil n0
  show Go p e below s (Q_schk Z ix ln fv h0 n0) xr10.cells xr10.slots s₁ (entryFrame m #[(.int ix), (.int ln)] 2)
  refine Go.cast (ef_schk m ix ln) ?_
  show Go p e below s _ _ _ s₁ (mkF m 0 #[vi ix, vi ln] [])
  refine Go.step (fun _ k => XS.iloadN X0.here hx rfl (hb hby d1_0) rfl (XS.iloadN X0.here hx rfl (hb hby d1_1) rfl k)) ?_
  show Go p e below s _ _ _ s₁ (mkF m 2 #[vi ix, vi ln] [(.int ln), (.int ix)])
  obtain ⟨T1, X1, e1, st1⟩ := getS2 X0 hx hZ hown (host := "") (Or.inl (tw193 hw)) Via.refl e0 (Z_S_SIOOBE_FORMATTER.ext O0.2) (g := (mkF m 2 #[vi ix, vi ln] [(.int ln), (.int ix)])) rfl (hb hby d1_2)
  refine Go.step (fun _ k => st1 _ k) ?_
  show Go p e below s _ _ _ T1 (mkF m 5 #[vi ix, vi ln] [fv, (.int ln), (.int ix)])
  rcases ref_cases hfv with rfl | ⟨fa, rfl⟩
  · show Go p e below s _ _ _ T1 (mkF m 5 #[vi ix, vi ln] [.null, (.int ln), (.int ix)])
    obtain ⟨_, _, ⟨T2, L2, k2, n2⟩, -, X2, ⟨Lc2, hQ2, l2, y2, z2⟩, st2⟩ := Jvm.LawKit.callS X1 hx (y := xm11) hown (mvT hZ (tw195 hw)) (mvT hZ (tw196 hw)) (mvT hZ (tw194 hw)) (mvT hZ (tw197 hw)) (by decide) (backOf (W := 0) (rm_pchk_n l Z a0 hw [] ix ln h0 n0 Z0 h1 h2) hZ (tw197 hw) (tw194 hw) (by decide) (by decide)) (g := (mkF m 5 #[vi ix, vi ln] [.null, (.int ln), (.int ix)])) rfl (by rw [hml]; rfl) (argsL := [(.int ix), (.int ln), .null]) (rest := []) (lenOf pd_0 rfl) rfl (Nat.le_of_eq rfl) (hb hby d1_5) (fun _ _ => ⟨rfl, e1, (by decide : 0 + 0 ≤ _), (by decide : 0 + 0 ≤ _)⟩)
    dsimp only [Pt.U, Pt.locs, Pt.cells, Pt.slots] at X2 l2 y2 z2 st2 hQ2
    subst l2 y2 z2
    obtain ⟨rfl, N2q, eq2⟩ := hQ2
    have N3 := Fr.app N0 N2q
    refine Go.step (fun _ k => st2 _ (XS.pop X2.here hx rfl (hb hby d1_8) rfl rfl k)) ?_
    show Go p e below s _ _ _ T2 (mkF m 9 #[vi ix, vi ln] [])
    exact Go.retV X2 hx hlk Bd.returns (hb hby d1_9) eq2 ⟨rfl, N3, rfl⟩ (by decide) (by decide)
  · show Go p e below s _ _ _ T1 (mkF m 5 #[vi ix, vi ln] [(.ref fa), (.int ln), (.int ix)])
    obtain ⟨_, _, ⟨T4, L4, k4, n4⟩, -, X4, ⟨Lc4, hQ4, l4, y4, z4⟩, st4⟩ := Jvm.LawKit.callS X1 hx (y := xm11) hown (mvT hZ (tw195 hw)) (mvT hZ (tw196 hw)) (mvT hZ (tw194 hw)) (mvT hZ (tw197 hw)) (by decide) (backOf (W := 0) (rm_pchk_r l Z a0 hw [] ix ln fa h0 n0 Z0 h1 h2) hZ (tw197 hw) (tw194 hw) (by decide) (by decide)) (g := (mkF m 5 #[vi ix, vi ln] [(.ref fa), (.int ln), (.int ix)])) rfl (by rw [hml]; rfl) (argsL := [(.int ix), (.int ln), (.ref fa)]) (rest := []) (lenOf pd_0 rfl) rfl (Nat.le_of_eq rfl) (hb hby d1_5) (fun _ _ => ⟨rfl, e1, (by decide : 0 + 0 ≤ _), (by decide : 0 + 0 ≤ _)⟩)
    dsimp only [Pt.U, Pt.locs, Pt.cells, Pt.slots] at X4 l4 y4 z4 st4 hQ4
    subst l4 y4 z4
    obtain ⟨rfl, N4q, eq4⟩ := hQ4
    have N5 := Fr.app N0 N4q
    refine Go.step (fun _ k => st4 _ (XS.pop X4.here hx rfl (hb hby d1_8) rfl rfl k)) ?_
    show Go p e below s _ _ _ T4 (mkF m 9 #[vi ix, vi ln] [])
    exact Go.retV X4 hx hlk Bd.returns (hb hby d1_9) eq4 ⟨rfl, N5, rfl⟩ (by decide) (by decide)

theorem ef_ch (m : MethodId) (x0 : Int32) (x1 : Int32) : entryFrame m #[(.int x0), (.int x1)] 2 = mkF m 0 #[vi x0, vi x1] [] := by first | (simp [entryFrame, mkF, argsToLocals, Value.category]; done) | rfl
def Q_ch (Z : State) (x : Int32) (k : Int32) (h0 : Heap) (n0 : Nat) (v : Option Value) (h : Heap) (L : List Loc) : Prop := v = some (.int (own_ch x k)) ∧ Fr n0 L ∧ h = h0
set_option maxRecDepth 65536 in
set_option maxHeartbeats 40000000 in
theorem rm_ch (l : Launch) (Z : State) (a0 : Array Value) (hw : ∀ d ∈ tables_1, d.before a0 Z = true) (ws : List Jvm.Cond) (x : Int32) (k : Int32) (h0 : Heap) (n0 : Nat) (Z0 : n0 ≤ h0.size) :
    MetFree l xm30 (head1 (Jvm.Cond.code xm30 method_4_code 2 (some .char) :: ws) xr34) (fun a U => a = #[(.int x), (.int k)] ∧ Z.Warmed39 U.vm ∧ U.heap = h0) (fun _ _ _ _ _ => True) (fun _ U o U' => ∃ v L, o = .returned v ∧ Q_ch Z x k h0 n0 v U'.heap L ∧ FrameEnd U o U' L xr34.cells xr34.slots) := by
  refine MetFree.of_bodySF (plainFor_of_name pn_2) hisR ?_
  intro p e s m args below meth c s₁ Bd hml0 hP hK
  obtain ⟨rfl, hZ, hh⟩ := hP
  have hx := Bd.exec
  have hby := Bd.bytes
  have hlk : meth.locks = false := BodyLoose.notSynchronized Bd
  have hml : c.maxLocals = 2 := hml0
  have hown : s.vm.findClass xs0 = some m.cls := findClass_of_methodNamed Bd.named
  have hnm := (name_of_methodNamed Bd.named Bd.method).1
  have X0 : Stand p l e xr34 s m #[(.int x), (.int k)] below meth c s₁ [] 0 0 := Stand.of_body Bd
  have e0 : s₁.heap = h0 := by rw [← hh, Bd.state]; rfl
  have N0 := Fr.nil n0
  show Go p e below s (Q_ch Z x k h0 n0) xr34.cells xr34.slots s₁ (entryFrame m #[(.int x), (.int k)] 2)
  refine Go.cast (ef_ch m x k) ?_
  show Go p e below s _ _ _ s₁ (mkF m 0 #[vi x, vi k] [])
  refine Go.step (fun _ k => XS.iloadN X0.here hx rfl (hb hby d2_0) rfl (XS.bipush X0.here hx rfl (hb hby d2_1) (XS.iloadN X0.here hx rfl (hb hby d2_3) rfl (XS.imul X0.here hx rfl (hb hby d2_4) rfl (XS.iushr X0.here hx rfl (hb hby d2_5) rfl (XS.sipush X0.here hx rfl (hb hby d2_6) (XS.iand X0.here hx rfl (hb hby d2_9) rfl (XS.i2c X0.here hx rfl (hb hby d2_10) rfl k)))))))) ?_
  show Go p e below s _ _ _ s₁ (mkF m 11 #[vi x, vi k] [(.int ((((x.toUInt32 >>> ((ci8 * k) &&& 31).toUInt32).toInt32) &&& ci255).toUInt32.toUInt16.toUInt32.toInt32))])
  exact Go.retN X0 hx hlk (t := .char) Bd.returns (by simp) (hb hby d2_11) e0 ⟨rfl, N0, rfl⟩ (by decide) (by decide)

theorem ef_String_new_1 (m : MethodId) (x0 : Addr) (x1 : Addr) (x2 : Int32) (x3 : Int32) : entryFrame m #[(.ref x0), (.ref x1), (.int x2), (.int x3), .null] 6 = mkF m 0 #[vr x0, vr x1, vi x2, vi x3, .val .null, .unset] [] := by first | (simp [entryFrame, mkF, argsToLocals, Value.category]; done) | rfl
def Q_String_new_1 (Z : State) (b6 : Addr) (b9 : Addr) (h0 : Heap) (n0 : Nat) (v : Option Value) (h : Heap) (L : List Loc) : Prop := ∃ (b13 : Addr) (kb13 : ClassId), v = none ∧ Fr n0 L ∧ Keep h0 h [b6] ∧ Fld Z h b6 xs25 "value" "[B" (.ref b13) ∧ Fld Z h b6 xs25 "coder" "B" cv0 ∧ Arv Z h b13 kb13 .byte ci0 [] cv0
set_option maxRecDepth 65536 in
set_option maxHeartbeats 40000000 in
theorem rm_String_new_1 (l : Launch) (Z : State) (a0 : Array Value) (hw : ∀ d ∈ tables_1, d.before a0 Z = true) (ws : List Jvm.Cond) (b6 : Addr) (b9 : Addr) (h0 : Heap) (n0 : Nat) (Z0 : n0 ≤ h0.size) (E_b6 : Exa Z h0 b6 xs25) (F_value_b6 : Fld Z h0 b6 xs25 "value" "[B" .null) (g_b6 : n0 ≤ b6) (F_coder_b6 : Fld Z h0 b6 xs25 "coder" "B" cv0) :
    MetFree l xm22 (head1 (Jvm.Cond.code xm22 jdk_42_method_149_code 6 none :: ws) xr11) (fun a U => a = #[(.ref b6), (.ref b9), cv0, cv0, .null] ∧ Z.Warmed39 U.vm ∧ U.heap = h0 ∧ CHv Z consts_1 U.vm h0) (fun _ _ _ _ _ => True) (fun _ U o U' => ∃ v L, o = .returned v ∧ Q_String_new_1 Z b6 b9 h0 n0 v U'.heap L ∧ CHr Z consts_1 U.vm U.heap U'.vm U'.heap ∧ ReturnedEndW U o U' L xr11.cells xr11.slots) := by
  refine MetFree.of_bodySF (plainFor_of_name pn_1) hisR ?_
  intro p e s m args below meth c s₁ Bd hml0 hP hK
  obtain ⟨rfl, hZ, hh, hCH⟩ := hP
  have hx := Bd.exec
  have hby := Bd.bytes
  have hlk : meth.locks = false := BodyLoose.notSynchronized Bd
  have hml : c.maxLocals = 6 := hml0
  have hown : s.vm.findClass xs25 = some m.cls := findClass_of_methodNamed Bd.named
  have hnm := (name_of_methodNamed Bd.named Bd.method).1
  have X0 : Stand p l e xr11 (s.setVm s.vm) m #[(.ref b6), (.ref b9), cv0, cv0, .null] below meth c s₁ [] 0 0 := Stand.of_body Bd
  have e0 : s₁.heap = h0 := by rw [← hh, Bd.state]; rfl
  have N0 := Fr.nil n0
  have hS0 : s.Since s.vm h0.size := (State.WarmedH.refl s).since _
  have CH0 : CHr Z consts_1 s.vm s.heap s.vm h0 := by rw [hh]; exact CHr.refl hCH
  have hZ_0 := hZ
  show GoH p e below s (((Q_String_new_1 Z b6 b9 h0 n0, fun vm h => CHr Z consts_1 s.vm s.heap vm h) : (Option Value → Heap → List Loc → Prop) × (Vm → Heap → Prop))) xr11.cells xr11.slots s₁ (entryFrame m #[(.ref b6), (.ref b9), cv0, cv0, .null] 6)
  refine GoH.cast (ef_String_new_1 m b6 b9 ci0 ci0) ?_
  show GoH p e below s _ _ _ s₁ (mkF m 0 #[vr b6, vr b9, .val cv0, .val cv0, .val .null, .unset] [])
  refine GoH.step (fun _ k => XS.aloadN X0.here hx rfl (hb hby d5_0) rfl rfl k) ?_
  show GoH p e below s _ _ _ s₁ (mkF m 1 #[vr b6, vr b9, .val cv0, .val cv0, .val .null, .unset] [(.ref b6)])
  obtain ⟨T12, X12, e12, st12⟩ := initO X0 hx hZ hown (tw18 hw) (tw19 hw) (tw20 hw) e0 (g := (mkF m 1 #[vr b6, vr b9, .val cv0, .val cv0, .val .null, .unset] [(.ref b6)])) rfl (by rw [hml]; rfl) rfl (hb hby d5_1) (by decide) (W := 0) (Nat.le_of_eq rfl) (by decide)
  refine GoH.step (fun _ k => st12 _ (XS.iloadN X12.here hx rfl (hb hby d5_4) rfl (XS.ifNo X12.here hx rfl (hb hby d5_5) rfl ((if0 _ _).trans (teq (by decide)).2) (XS.aloadN X12.here hx rfl (hb hby d5_8) rfl rfl k)))) ?_
  show GoH p e below s _ _ _ T12 (mkF m 9 #[vr b6, vr b9, .val cv0, .val cv0, .val .null, .unset] [(.ref b6)])
  obtain ⟨a13, T13, h13, k13, b13, kb13, X13, e13, E13, hS13, hk13, hZ13, hown13, A13, C13, D13, V13, -, -, ch13, -, sf13, st13⟩ := ldcCH X12 hx hZ hown (tw37 hw) (own_wS hw) e12 hS0 (Nat.le_refl _) (own_EW hw) (List.mem_of_getElem? (i := 1) rfl) CH0.1 (vs := []) (z := ci0) ⟨by decide, rfl⟩ (by decide) rfl (g := (mkF m 9 #[vr b6, vr b9, .val cv0, .val cv0, .val .null, .unset] [(.ref b6)])) rfl (hb hby d5_9) (n := 0) (by decide) (by decide) (by decide) (by decide)
  have f14 := CH0.trans ch13
  refine GoH.step (fun _ k => st13 _ k) ?_
  show GoH p e below s _ _ _ T13 (mkF m 11 #[vr b6, vr b9, .val cv0, .val cv0, .val .null, .unset] [(.ref a13), (.ref b6)])
  obtain ⟨T15, X15, e15, st15⟩ := getF X13 hx hZ13 hown13 (host := "") (Or.inl (tw35 hw)) Via.refl e13 D13 (g := (mkF m 11 #[vr b6, vr b9, .val cv0, .val cv0, .val .null, .unset] [(.ref a13), (.ref b6)])) rfl rfl (hb hby d5_11)
  refine GoH.step (fun _ k => st15 _ k) ?_
  show GoH p e below s _ _ _ T15 (mkF m 14 #[vr b6, vr b9, .val cv0, .val cv0, .val .null, .unset] [(.ref b13), (.ref b6)])
  have f16 := (F_value_b6.ext E13)
  have f17 := (E_b6.ext E13)
  obtain ⟨T18, h18, X18, e18, W18, st18⟩ := putF X15 hx hZ13 hown13 (host := "") (Or.inl (tw35 hw)) Via.refl e15 f16 f17 (Or.inr ⟨(tw36 hw), rfl, hnm⟩) (tw5 hw) (ty := (.array .byte)) (by decide) rfl rfl (g := (mkF m 14 #[vr b6, vr b9, .val cv0, .val cv0, .val .null, .unset] [(.ref b13), (.ref b6)])) rfl rfl (hb hby d5_14)
  have f20 := f16.same W18
  have N21 := Fr.snoc X18 N0 g_b6
  refine GoH.step (fun _ k => st18 _ (XS.aloadN X18.here hx rfl (hb hby d5_17) rfl rfl k)) ?_
  show GoH p e below s _ _ _ T18 (mkF m 18 #[vr b6, vr b9, .val cv0, .val cv0, .val .null, .unset] [(.ref b6)])
  have f23 := (Nat.le_trans hk13 (Keep.of_wr W18).1)
  have sf24 := own_safeN (EL := consts_1) hZ13.alike f16 f17
  have f25 := (own_chW f14 W18 sf24)
  obtain ⟨a22, T22, h22, k22, b22, kb22, X22, e22, E22, hS22, hk22, hZ22, hown22, A22, C22, D22, V22, -, -, ch22, -, sf22, st22⟩ := ldcCH X18 hx hZ13 hown13 (tw37 hw) (own_wS hw) e18 hS13 f23 (own_EW hw) (List.mem_of_getElem? (i := 1) rfl) f25.1 (vs := []) (z := ci0) ⟨by decide, rfl⟩ (by decide) rfl (g := (mkF m 18 #[vr b6, vr b9, .val cv0, .val cv0, .val .null, .unset] [(.ref b6)])) rfl (hb hby d5_18) (n := 0) (by decide) (by decide) (by decide) (by decide)
  have f26 := f25.trans ch22
  refine GoH.step (fun _ k => st22 _ k) ?_
  show GoH p e below s _ _ _ T22 (mkF m 20 #[vr b6, vr b9, .val cv0, .val cv0, .val .null, .unset] [(.ref a22), (.ref b6)])
  obtain ⟨T27, X27, e27, st27⟩ := getF X22 hx hZ22 hown22 (host := "") (Or.inl (tw33 hw)) Via.refl e22 C22 (g := (mkF m 20 #[vr b6, vr b9, .val cv0, .val cv0, .val .null, .unset] [(.ref a22), (.ref b6)])) rfl rfl (hb hby d5_20)
  refine GoH.step (fun _ k => st27 _ k) ?_
  show GoH p e below s _ _ _ T27 (mkF m 23 #[vr b6, vr b9, .val cv0, .val cv0, .val .null, .unset] [cv0, (.ref b6)])
  have f28 := (((F_coder_b6.ext E13).other W18 (Or.inr (slot_ne (Or.inr (tw34 hw)) (Or.inr (tw36 hw)) (by decide) (t := .byte) (t' := (.array .byte)) (by decide) (by decide)))).ext E22)
  have f29 := ((f17.wr W18).ext E22)
  obtain ⟨T30, h30, X30, e30, W30, st30⟩ := putFN X27 hx hZ22 hown22 (tw33 hw) Via.refl e27 f28 f29 (Or.inr ⟨(tw34 hw), rfl, hnm⟩) (tw5 hw) (ty := .byte) (v' := cv0) (by decide) rfl rfl (g := (mkF m 23 #[vr b6, vr b9, .val cv0, .val cv0, .val .null, .unset] [cv0, (.ref b6)])) rfl rfl (hb hby d5_23)
  have f31 := f28.same W30
  have N32 := Fr.snoc X30 N21 g_b6
  refine GoH.step (fun _ k => st30 _ k) ?_
  show GoH p e below s _ _ _ T30 (mkF m 26 #[vr b6, vr b9, .val cv0, .val cv0, .val .null, .unset] [])
  have f33 := (((((Keep.refl h0 [b6]).ext E13).wr W18 (Or.inl (List.mem_of_getElem? (i := 0) rfl))).ext E22).wr W30 (Or.inl (List.mem_of_getElem? (i := 0) rfl)))
  have f34 := ((f20.ext E22).other W30 (Or.inr (slot_ne (Or.inr (tw36 hw)) (Or.inr (tw34 hw)) (by decide) (t := (.array .byte)) (t' := .byte) (by decide) (by decide))))
  have ne35 : b6 ≠ b13 := (sf13 _ sf24).2
  have f36 := (((V13.other W18 (Ne.symm ne35)).ext E22).other W30 (Ne.symm ne35))
  have f37 := (Nat.le_trans hk22 (Keep.of_wr W30).1)
  have f38 := (f17.wr W18)
  have f39 := (CHr.safe ch22 f38.lt (Safe.wr W18 sf24 f14.1 sf24))
  have f40 := (own_chW f26 W30 f39)
  exact GoH.retV X30 hS22 hx hlk Bd.returns (hb hby d5_26) e30 f37 ⟨b13, kb13, rfl, N32, f33, f34, f31, f36⟩ (f40.trans (CHv.at X30 hZ22 (own_EW hw) f40.1)) (by decide) (by decide)

theorem ef_String_new_0 (m : MethodId) (x0 : Addr) (x1 : Addr) : entryFrame m #[(.ref x0), (.ref x1)] 2 = mkF m 0 #[vr x0, vr x1] [] := by first | (simp [entryFrame, mkF, argsToLocals, Value.category]; done) | rfl
def Q_String_new_0 (Z : State) (b6 : Addr) (b9 : Addr) (k9 : ClassId) (h0 : Heap) (n0 : Nat) (v : Option Value) (h : Heap) (L : List Loc) : Prop := ∃ (uu0 : Addr) (kb13_41 : ClassId), v = none ∧ Fr n0 L ∧ Keep h0 h [b6] ∧ Fld Z h b6 xs25 "value" "[B" (.ref uu0) ∧ Fld Z h b6 xs25 "coder" "B" cv0 ∧ Arv Z h uu0 kb13_41 .byte ci0 [] cv0
set_option maxRecDepth 65536 in
set_option maxHeartbeats 40000000 in
theorem rm_String_new_0 (l : Launch) (Z : State) (a0 : Array Value) (hw : ∀ d ∈ tables_1, d.before a0 Z = true) (ws : List Jvm.Cond) (b6 : Addr) (b9 : Addr) (k9 : ClassId) (h0 : Heap) (n0 : Nat) (Z0 : n0 ≤ h0.size) (V_b9 : Arv Z h0 b9 k9 .char ci0 [] cv0) (E_b6 : Exa Z h0 b6 xs25) (F_value_b6 : Fld Z h0 b6 xs25 "value" "[B" .null) (g_b6 : n0 ≤ b6) (F_coder_b6 : Fld Z h0 b6 xs25 "coder" "B" cv0) :
    MetFree l xm8 (head1 (Jvm.Cond.code xm8 jdk_42_method_3_code 2 none :: ws) xr12) (fun a U => a = #[(.ref b6), (.ref b9)] ∧ Z.Warmed39 U.vm ∧ U.heap = h0 ∧ CHv Z consts_1 U.vm h0) (fun _ _ _ _ _ => True) (fun _ U o U' => ∃ v L, o = .returned v ∧ Q_String_new_0 Z b6 b9 k9 h0 n0 v U'.heap L ∧ CHr Z consts_1 U.vm U.heap U'.vm U'.heap ∧ ReturnedEndW U o U' L xr12.cells xr12.slots) := by
  refine MetFree.of_bodySF (plainFor_of_name pn_1) hisR ?_
  intro p e s m args below meth c s₁ Bd hml0 hP hK
  obtain ⟨rfl, hZ, hh, hCH⟩ := hP
  have hx := Bd.exec
  have hby := Bd.bytes
  have hlk : meth.locks = false := BodyLoose.notSynchronized Bd
  have hml : c.maxLocals = 2 := hml0
  have hown : s.vm.findClass xs25 = some m.cls := findClass_of_methodNamed Bd.named
  have hnm := (name_of_methodNamed Bd.named Bd.method).1
  have X0 : Stand p l e xr12 (s.setVm s.vm) m #[(.ref b6), (.ref b9)] below meth c s₁ [] 0 0 := Stand.of_body Bd
  have e0 : s₁.heap = h0 := by rw [← hh, Bd.state]; rfl
  have N0 := Fr.nil n0
  have hS0 : s.Since s.vm h0.size := (State.WarmedH.refl s).since _
  have CH0 : CHr Z consts_1 s.vm s.heap s.vm h0 := by rw [hh]; exact CHr.refl hCH
  have hZ_0 := hZ
  show GoH p e below s (((Q_String_new_0 Z b6 b9 k9 h0 n0, fun vm h => CHr Z consts_1 s.vm s.heap vm h) : (Option Value → Heap → List Loc → Prop) × (Vm → Heap → Prop))) xr12.cells xr12.slots s₁ (entryFrame m #[(.ref b6), (.ref b9)] 2)
  refine GoH.cast (ef_String_new_0 m b6 b9) ?_
  show GoH p e below s _ _ _ s₁ (mkF m 0 #[vr b6, vr b9] [])
  refine GoH.step (fun _ k => XS.aloadN X0.here hx rfl (hb hby d4_0) rfl rfl (XS.aloadN X0.here hx rfl (hb hby d4_1) rfl rfl (XS.iconst X0.here hx rfl (hb hby d4_2) (XS.aloadN X0.here hx rfl (hb hby d4_3) rfl rfl k)))) ?_
  show GoH p e below s _ _ _ s₁ (mkF m 4 #[vr b6, vr b9] [(.ref b9), cv0, (.ref b9), (.ref b6)])
  obtain ⟨cl11, Ar11, -, Sz11, Ng11, -, -⟩ := id V_b9
  have aln11 := X0.arraylength hx (by rw [e0]; exact Ar11.1) (State.isArrayOf_alike hZ.alike Ar11.2.1) (g := (mkF m 4 #[vr b6, vr b9] [(.ref b9), cv0, (.ref b9), (.ref b6)])) rfl rfl (hb hby d4_4)
  rw [len_of Sz11 Ng11] at aln11
  refine GoH.step (fun _ k => aln11 _ (XS.aconstNull X0.here hx rfl (hb hby d4_5) k)) ?_
  show GoH p e below s _ _ _ s₁ (mkF m 6 #[vr b6, vr b9] [.null, cv0, cv0, (.ref b9), (.ref b6)])
  obtain ⟨_, _, ⟨T41, L41, k41, n41⟩, -, X41s, hs41, hg41, ⟨Lc41, hQ41, l41, y41, z41, ch41⟩, st41⟩ := X0.specialBackS hx (y := xm22) rfl hown (mvT hZ (tw14 hw)) (mvT hZ (tw15 hw)) (mvT hZ (tw17 hw)) (by decide) (backOfSH (W := 0) (rm_String_new_1 l Z a0 hw [] b6 b9 h0 n0 Z0 E_b6 F_value_b6 g_b6 F_coder_b6) hZ (tw17 hw) (tw6 hw) (by decide) (by decide) (own_EW hw) CH0.1) (g := (mkF m 6 #[vr b6, vr b9] [.null, cv0, cv0, (.ref b9), (.ref b6)])) rfl (by rw [hml]; rfl) (Steps.refl _) (a := b6) (argsL := [(.ref b9), cv0, cv0, .null]) (rest := []) (lenOf pd_1 rfl) rfl (Nat.le_of_eq rfl) (hb hby d4_6) (fun _ _ => ⟨rfl, e0, (by decide : 0 + 4 ≤ _), (by decide : 0 + 8 ≤ _)⟩)
  dsimp only [Pt.U, Pt.locs, Pt.cells, Pt.slots] at X41s hs41 hg41 l41 y41 z41 st41 hQ41 ch41
  subst l41 y41 z41
  obtain ⟨X41, hS41, hZ41, hown41⟩ := rebS hS0 (by rw [e0]; exact (Nat.le_refl _)) X41s hs41 hg41 hZ hown
  obtain ⟨uu0, kb13_41, rfl, N41q, K41, P41_0, P41_1, P41_2⟩ := hQ41
  have N42 := Fr.app N0 N41q
  have f43 := CH0.trans ch41
  refine GoH.step (fun _ k => st41.trans k) ?_
  show GoH p e below s _ _ _ T41 (mkF m 9 #[vr b6, vr b9] [])
  have f44 := ((Keep.refl h0 [b6]).trans K41 (allS (Or.inl (List.mem_of_getElem? (i := 0) rfl)) all0))
  exact GoH.retV X41 hS41 hx hlk Bd.returns (hb hby d4_9) rfl (Nat.le_refl _) ⟨uu0, kb13_41, rfl, N42, f44, P41_0, P41_1, P41_2⟩ (f43.trans (CHv.at X41 hZ41 (own_EW hw) f43.1)) (by decide) (by decide)

theorem ef_ObjectRefToStringPinLaw_make_0 (m : MethodId) (x0 : Int32) (x1 : Int32) : entryFrame m #[(.int x0), (.int x1)] 2 = mkF m 0 #[vi x0, vi x1] [] := by first | (simp [entryFrame, mkF, argsToLocals, Value.category]; done) | rfl
def Q_ObjectRefToStringPinLaw_make_0 (Z : State) (p1 : Int32) (h0 : Heap) (n0 : Nat) (v : Option Value) (h : Heap) (L : List Loc) : Prop := ∃ (b6 : Addr) (uu1 : Addr) (kb13_41_49 : ClassId), v = some (.ref b6) ∧ Fr n0 L ∧ Keep h0 h [] ∧ h0.size ≤ b6 ∧ Exa Z h b6 xs25 ∧ Fld Z h b6 xs25 "coder" "B" cv0 ∧ Fld Z h b6 xs25 "value" "[B" (.ref uu1) ∧ Arv Z h uu1 kb13_41_49 .byte ci0 [] cv0
set_option maxRecDepth 65536 in
set_option maxHeartbeats 40000000 in
theorem rm_ObjectRefToStringPinLaw_make_0 (l : Launch) (Z : State) (a0 : Array Value) (hw : ∀ d ∈ tables_1, d.before a0 Z = true) (ws : List Jvm.Cond) (p1 : Int32) (h0 : Heap) (n0 : Nat) (Z0 : n0 ≤ h0.size) :
    MetFree l xm33 (head1 (Jvm.Cond.code xm33 method_5_code 2 (some (.object xs25)) :: ws) xr0) (fun a U => a = #[(.int p1), cv0] ∧ Z.Warmed39 U.vm ∧ U.heap = h0 ∧ CHv Z consts_1 U.vm h0) (fun _ _ _ _ _ => True) (fun _ U o U' => ∃ v L, o = .returned v ∧ Q_ObjectRefToStringPinLaw_make_0 Z p1 h0 n0 v U'.heap L ∧ CHr Z consts_1 U.vm U.heap U'.vm U'.heap ∧ ReturnedEndW U o U' L xr0.cells xr0.slots) := by
  refine MetFree.of_bodySF (plainFor_of_name pn_2) hisR ?_
  intro p e s m args below meth c s₁ Bd hml0 hP hK
  obtain ⟨rfl, hZ, hh, hCH⟩ := hP
  have hx := Bd.exec
  have hby := Bd.bytes
  have hlk : meth.locks = false := BodyLoose.notSynchronized Bd
  have hml : c.maxLocals = 2 := hml0
  have hown : s.vm.findClass xs0 = some m.cls := findClass_of_methodNamed Bd.named
  have hnm := (name_of_methodNamed Bd.named Bd.method).1
  have X0 : Stand p l e xr0 (s.setVm s.vm) m #[(.int p1), cv0] below meth c s₁ [] 0 0 := Stand.of_body Bd
  have e0 : s₁.heap = h0 := by rw [← hh, Bd.state]; rfl
  have N0 := Fr.nil n0
  have hS0 : s.Since s.vm h0.size := (State.WarmedH.refl s).since _
  have CH0 : CHr Z consts_1 s.vm s.heap s.vm h0 := by rw [hh]; exact CHr.refl hCH
  have hZ_0 := hZ
  show GoH p e below s (((Q_ObjectRefToStringPinLaw_make_0 Z p1 h0 n0, fun vm h => CHr Z consts_1 s.vm s.heap vm h) : (Option Value → Heap → List Loc → Prop) × (Vm → Heap → Prop))) xr0.cells xr0.slots s₁ (entryFrame m #[(.int p1), cv0] 2)
  refine GoH.cast (ef_ObjectRefToStringPinLaw_make_0 m p1 ci0) ?_
  show GoH p e below s _ _ _ s₁ (mkF m 0 #[vi p1, .val cv0] [])
  refine GoH.step (fun _ k => XS.iloadN X0.here hx rfl (hb hby d3_0) rfl (XS.ifNo X0.here hx rfl (hb hby d3_1) rfl ((if0 _ _).trans (teq (by decide)).2) k)) ?_
  show GoH p e below s _ _ _ s₁ (mkF m 4 #[vi p1, .val cv0] [])
  obtain ⟨T6, h6, X6, e6, E6, A6, D6, -, st6⟩ := newO X0 hx hZ hown (tw4 hw) (tw5 hw) (tw6 hw) e0 (g := (mkF m 4 #[vi p1, .val cv0] [])) rfl (hb hby d3_4) (by decide) (by decide)
  obtain ⟨b6, g6⟩ : ∃ z, z = h0.size := ⟨_, rfl⟩
  rw [← g6] at A6 D6 st6
  have f7 : Fld Z h6 b6 xs25 "coder" "B" cv0 := D6 (Or.inr (tw34 hw)) (ty := .byte) (by decide)
  have f8 : Fld Z h6 b6 xs25 "value" "[B" .null := D6 (Or.inr (tw36 hw)) (ty := (.array .byte)) (by decide)
  refine GoH.step (fun _ k => st6 _ (XS.dup X6.here hx rfl (hb hby d3_7) rfl rfl (XS.iconst X6.here hx rfl (hb hby d3_8) k))) ?_
  show GoH p e below s _ _ _ T6 (mkF m 9 #[vi p1, .val cv0] [cv0, (.ref b6), (.ref b6)])
  obtain ⟨T9, h9, k9, X9, e9, E9, A9, st9⟩ := newP (aty := .char) X6 hx hZ (tw7 hw) e6 (g := (mkF m 9 #[vi p1, .val cv0] [cv0, (.ref b6), (.ref b6)])) rfl (hb hby d3_9) rfl (by decide) (cap := 0) (by decide) (by decide) (by decide) (by decide)
  obtain ⟨b9, g9⟩ : ∃ z, z = h6.size := ⟨_, rfl⟩
  rw [← g9] at A9 st9
  have f10 : Arv Z h9 b9 k9 .char ci0 [] cv0 := Arv.new A9 (by decide)
  refine GoH.step (fun _ k => st9 _ k) ?_
  show GoH p e below s _ _ _ T9 (mkF m 11 #[vi p1, .val cv0] [(.ref b9), (.ref b6), (.ref b6)])
  have g19 := Nat.le_trans Z0 (Nat.le_of_eq g6.symm)
  have f45 := (Nat.le_trans (Nat.le_trans Z0 E6.1) E9.1)
  have f46 := (A6.ext E9)
  have f47 := (f8.ext E9)
  have f48 := (f7.ext E9)
  have f50 := (own_chE (own_chE CH0 E6) E9)
  obtain ⟨_, _, ⟨T49, L49, k49, n49⟩, -, X49s, hs49, hg49, ⟨Lc49, hQ49, l49, y49, z49, ch49⟩, st49⟩ := X9.specialBackS hx (y := xm8) rfl hown (mvT hZ (tw11 hw)) (mvT hZ (tw12 hw)) (mvT hZ (tw13 hw)) (by decide) (backOfSH (W := 1) (rm_String_new_0 l Z a0 hw [] b6 b9 k9 h9 n0 f45 f10 f46 f47 g19 f48) hZ (tw13 hw) (tw6 hw) (by decide) (by decide) (own_EW hw) f50.1) (g := (mkF m 11 #[vi p1, .val cv0] [(.ref b9), (.ref b6), (.ref b6)])) rfl (by rw [hml]; rfl) (Steps.refl _) (a := b6) (argsL := [(.ref b9)]) (rest := [(.ref b6)]) (lenOf pd_2 rfl) rfl (Nat.le_of_eq rfl) (hb hby d3_11) (fun _ _ => ⟨rfl, e9, (by decide : 2 + 4 ≤ _), (by decide : 4 + 8 ≤ _)⟩)
  dsimp only [Pt.U, Pt.locs, Pt.cells, Pt.slots] at X49s hs49 hg49 l49 y49 z49 st49 hQ49 ch49
  subst l49 y49 z49
  have f51 := (Nat.le_trans (Nat.le_trans (Nat.le_refl _) E6.1) E9.1)
  obtain ⟨X49, hS49, hZ49, hown49⟩ := rebS hS0 (by rw [e9]; exact f51) X49s hs49 hg49 hZ hown
  obtain ⟨uu1, kb13_41_49, rfl, N49q, K49, P49_0, P49_1, P49_2⟩ := hQ49
  have N52 := Fr.app N0 N49q
  have f53 := f50.trans ch49
  refine GoH.step (fun _ k => st49.trans k) ?_
  show GoH p e below s _ _ _ T49 (mkF m 14 #[vi p1, .val cv0] [(.ref b6)])
  have z54 := Nat.le_trans (Nat.le_refl _) (Nat.le_of_eq g6.symm)
  have f55 := ((((Keep.refl h0 []).ext E6).ext E9).trans K49 (allS (Or.inr z54) all0))
  have f56 := (f46.keep K49)
  exact GoH.retA X49 hS49 hx hlk Bd.returns rfl rfl (hb hby d3_14) rfl (Nat.le_refl _) ⟨b6, uu1, kb13_41_49, rfl, N52, f55, z54, f56, P49_1, P49_0, P49_2⟩ (f53.trans (CHv.at X49 hZ49 (own_EW hw) f53.1)) (by decide) (by decide)

theorem ef_Record_new_0 (m : MethodId) (x0 : Addr) : entryFrame m #[(.ref x0)] 1 = mkF m 0 #[vr x0] [] := by first | (simp [entryFrame, mkF, argsToLocals, Value.category]; done) | rfl
def Q_Record_new_0 (Z : State) (b64 : Addr) (h0 : Heap) (n0 : Nat) (v : Option Value) (h : Heap) (L : List Loc) : Prop := v = none ∧ Fr n0 L ∧ h = h0
set_option maxRecDepth 65536 in
set_option maxHeartbeats 40000000 in
theorem rm_Record_new_0 (l : Launch) (Z : State) (a0 : Array Value) (hw : ∀ d ∈ tables_1, d.before a0 Z = true) (ws : List Jvm.Cond) (b64 : Addr) (h0 : Heap) (n0 : Nat) (Z0 : n0 ≤ h0.size) :
    MetFree l xm16 (head1 (Jvm.Cond.code xm16 jdk_30_method_1_code 1 none :: ws) xr13) (fun a U => a = #[(.ref b64)] ∧ Z.Warmed39 U.vm ∧ U.heap = h0) (fun _ _ _ _ _ => True) (fun _ U o U' => ∃ v L, o = .returned v ∧ Q_Record_new_0 Z b64 h0 n0 v U'.heap L ∧ FrameEnd U o U' L xr13.cells xr13.slots) := by
  refine MetFree.of_bodySF (plainFor_of_name pn_3) hisR ?_
  intro p e s m args below meth c s₁ Bd hml0 hP hK
  obtain ⟨rfl, hZ, hh⟩ := hP
  have hx := Bd.exec
  have hby := Bd.bytes
  have hlk : meth.locks = false := BodyLoose.notSynchronized Bd
  have hml : c.maxLocals = 1 := hml0
  have hown : s.vm.findClass xs26 = some m.cls := findClass_of_methodNamed Bd.named
  have hnm := (name_of_methodNamed Bd.named Bd.method).1
  have X0 : Stand p l e xr13 s m #[(.ref b64)] below meth c s₁ [] 0 0 := Stand.of_body Bd
  have e0 : s₁.heap = h0 := by rw [← hh, Bd.state]; rfl
  have N0 := Fr.nil n0
  show Go p e below s (Q_Record_new_0 Z b64 h0 n0) xr13.cells xr13.slots s₁ (entryFrame m #[(.ref b64)] 1)
  refine Go.cast (ef_Record_new_0 m b64) ?_
  show Go p e below s _ _ _ s₁ (mkF m 0 #[vr b64] [])
  refine Go.step (fun _ k => XS.aloadN X0.here hx rfl (hb hby d7_0) rfl rfl k) ?_
  show Go p e below s _ _ _ s₁ (mkF m 1 #[vr b64] [(.ref b64)])
  obtain ⟨T67, X67, e67, st67⟩ := initO X0 hx hZ hown (tw51 hw) (tw19 hw) (tw20 hw) e0 (g := (mkF m 1 #[vr b64] [(.ref b64)])) rfl (by rw [hml]; rfl) rfl (hb hby d7_1) (by decide) (W := 0) (Nat.le_of_eq rfl) (by decide)
  refine Go.step (fun _ k => st67 _ k) ?_
  show Go p e below s _ _ _ T67 (mkF m 4 #[vr b64] [])
  exact Go.retV X67 hx hlk Bd.returns (hb hby d7_4) e67 ⟨rfl, N0, rfl⟩ (by decide) (by decide)

theorem ef_ObjectRef_new_0 (m : MethodId) (x0 : Addr) (x1 : Addr) (x2 : Addr) : entryFrame m #[(.ref x0), (.ref x1), (.ref x2)] 3 = mkF m 0 #[vr x0, vr x1, vr x2] [] := by first | (simp [entryFrame, mkF, argsToLocals, Value.category]; done) | rfl
def Q_ObjectRef_new_0 (Z : State) (b64 : Addr) (uu2 : Addr) (uu3 : Addr) (h0 : Heap) (n0 : Nat) (v : Option Value) (h : Heap) (L : List Loc) : Prop := v = none ∧ Fr n0 L ∧ Keep h0 h [b64] ∧ Fld Z h b64 xs3 "type" xs21 (.ref uu2) ∧ Fld Z h b64 xs3 "id" xs21 (.ref uu3)
set_option maxRecDepth 65536 in
set_option maxHeartbeats 40000000 in
theorem rm_ObjectRef_new_0 (l : Launch) (Z : State) (a0 : Array Value) (hw : ∀ d ∈ tables_1, d.before a0 Z = true) (ws : List Jvm.Cond) (b64 : Addr) (uu2 : Addr) (uu3 : Addr) (h0 : Heap) (n0 : Nat) (Z0 : n0 ≤ h0.size) (E_b64 : Exa Z h0 b64 xs3) (F_type_b64 : Fld Z h0 b64 xs3 "type" xs21 .null) (g_b64 : n0 ≤ b64) (F_id_b64 : Fld Z h0 b64 xs3 "id" xs21 .null) :
    MetFree l xm31 (head1 (Jvm.Cond.code xm31 prog_36_method_1_code 3 none :: ws) xr14) (fun a U => a = #[(.ref b64), (.ref uu2), (.ref uu3)] ∧ Z.Warmed39 U.vm ∧ U.heap = h0) (fun _ _ _ _ _ => True) (fun _ U o U' => ∃ v L, o = .returned v ∧ Q_ObjectRef_new_0 Z b64 uu2 uu3 h0 n0 v U'.heap L ∧ FrameEnd U o U' L xr14.cells xr14.slots) := by
  refine MetFree.of_bodySF (plainFor_of_name pn_4) hisR ?_
  intro p e s m args below meth c s₁ Bd hml0 hP hK
  obtain ⟨rfl, hZ, hh⟩ := hP
  have hx := Bd.exec
  have hby := Bd.bytes
  have hlk : meth.locks = false := BodyLoose.notSynchronized Bd
  have hml : c.maxLocals = 3 := hml0
  have hown : s.vm.findClass xs3 = some m.cls := findClass_of_methodNamed Bd.named
  have hnm := (name_of_methodNamed Bd.named Bd.method).1
  have X0 : Stand p l e xr14 s m #[(.ref b64), (.ref uu2), (.ref uu3)] below meth c s₁ [] 0 0 := Stand.of_body Bd
  have e0 : s₁.heap = h0 := by rw [← hh, Bd.state]; rfl
  have N0 := Fr.nil n0
  show Go p e below s (Q_ObjectRef_new_0 Z b64 uu2 uu3 h0 n0) xr14.cells xr14.slots s₁ (entryFrame m #[(.ref b64), (.ref uu2), (.ref uu3)] 3)
  refine Go.cast (ef_ObjectRef_new_0 m b64 uu2 uu3) ?_
  show Go p e below s _ _ _ s₁ (mkF m 0 #[vr b64, vr uu2, vr uu3] [])
  refine Go.step (fun _ k => XS.aloadN X0.here hx rfl (hb hby d6_0) rfl rfl k) ?_
  show Go p e below s _ _ _ s₁ (mkF m 1 #[vr b64, vr uu2, vr uu3] [(.ref b64)])
  obtain ⟨_, _, ⟨T68, L68, k68, n68⟩, -, X68, ⟨Lc68, hQ68, l68, y68, z68⟩, st68⟩ := X0.specialBack hx (y := xm16) rfl hown (mvT hZ (tw46 hw)) (mvT hZ (tw47 hw)) (mvT hZ (tw50 hw)) (by decide) (backOf (W := 0) (rm_Record_new_0 l Z a0 hw [] b64 h0 n0 Z0) hZ (tw50 hw) (tw49 hw) (by decide) (by decide)) (g := (mkF m 1 #[vr b64, vr uu2, vr uu3] [(.ref b64)])) rfl (by rw [hml]; rfl) (Steps.refl _) (a := b64) (argsL := []) (rest := []) (lenOf pd_4 rfl) rfl (Nat.le_of_eq rfl) (hb hby d6_1) (fun _ _ => ⟨rfl, e0, (by decide : 0 + 0 ≤ _), (by decide : 0 + 0 ≤ _)⟩)
  dsimp only [Pt.U, Pt.locs, Pt.cells, Pt.slots] at X68 l68 y68 z68 st68 hQ68
  subst l68 y68 z68
  obtain ⟨rfl, N68q, eq68⟩ := hQ68
  have N69 := Fr.app N0 N68q
  refine Go.step (fun _ k => st68.trans (XS.aloadN X68.here hx rfl (hb hby d6_4) rfl rfl (XS.aloadN X68.here hx rfl (hb hby d6_5) rfl rfl k))) ?_
  show Go p e below s _ _ _ T68 (mkF m 6 #[vr b64, vr uu2, vr uu3] [(.ref uu2), (.ref b64)])
  obtain ⟨T70, h70, X70, e70, W70, st70⟩ := putF X68 hx hZ hown (host := "") (Or.inl (tw52 hw)) Via.refl eq68 F_type_b64 E_b64 (Or.inr ⟨(tw53 hw), rfl, hnm⟩) (tw41 hw) (ty := (.object xs25)) (by decide) rfl rfl (g := (mkF m 6 #[vr b64, vr uu2, vr uu3] [(.ref uu2), (.ref b64)])) rfl rfl (hb hby d6_6)
  have f73 := F_type_b64.same W70
  have N74 := Fr.snoc X70 N69 g_b64
  refine Go.step (fun _ k => st70 _ (XS.aloadN X70.here hx rfl (hb hby d6_9) rfl rfl (XS.aloadN X70.here hx rfl (hb hby d6_10) rfl rfl k))) ?_
  show Go p e below s _ _ _ T70 (mkF m 11 #[vr b64, vr uu2, vr uu3] [(.ref uu3), (.ref b64)])
  have f75 := (F_id_b64.other W70 (Or.inr (slot_ne (Or.inr (tw55 hw)) (Or.inr (tw53 hw)) (by decide) (t := (.object xs25)) (t' := (.object xs25)) (by decide) (by decide))))
  have f76 := (E_b64.wr W70)
  obtain ⟨T77, h77, X77, e77, W77, st77⟩ := putF X70 hx hZ hown (host := "") (Or.inl (tw54 hw)) Via.refl e70 f75 f76 (Or.inr ⟨(tw55 hw), rfl, hnm⟩) (tw41 hw) (ty := (.object xs25)) (by decide) rfl rfl (g := (mkF m 11 #[vr b64, vr uu2, vr uu3] [(.ref uu3), (.ref b64)])) rfl rfl (hb hby d6_11)
  have f78 := f75.same W77
  have N79 := Fr.snoc X77 N74 g_b64
  refine Go.step (fun _ k => st77 _ k) ?_
  show Go p e below s _ _ _ T77 (mkF m 14 #[vr b64, vr uu2, vr uu3] [])
  have f80 := (((Keep.refl h0 [b64]).wr W70 (Or.inl (List.mem_of_getElem? (i := 0) rfl))).wr W77 (Or.inl (List.mem_of_getElem? (i := 0) rfl)))
  have f81 := (f73.other W77 (Or.inr (slot_ne (Or.inr (tw53 hw)) (Or.inr (tw55 hw)) (by decide) (t := (.object xs25)) (t' := (.object xs25)) (by decide) (by decide))))
  have f82 := (Nat.le_trans (Nat.le_trans (Nat.le_refl _) (Keep.of_wr W70).1) (Keep.of_wr W77).1)
  exact Go.retV X77 hx hlk Bd.returns (hb hby d6_14) e77 ⟨rfl, N79, f80, f81, f78⟩ (by decide) (by decide)

theorem ef_AbstractStringBuilder_new_0 (m : MethodId) (x0 : Addr) (x1 : Int32) : entryFrame m #[(.ref x0), (.int x1)] 2 = mkF m 0 #[vr x0, vi x1] [] := by first | (simp [entryFrame, mkF, argsToLocals, Value.category]; done) | rfl
def Q_AbstractStringBuilder_new_0 (Z : State) (b86 : Addr) (cs : Int32) (h0 : Heap) (n0 : Nat) (v : Option Value) (h : Heap) (L : List Loc) : Prop := ∃ (b92 : Addr) (k92 : ClassId), v = none ∧ Fr n0 L ∧ Keep h0 h [b86] ∧ Fld Z h b86 xs9 "value" "[B" (.ref b92) ∧ Fld Z h b86 xs9 "coder" "B" cv0 ∧ Fld Z h b86 xs9 "count" "I" cv0 ∧ h0.size ≤ b92 ∧ Arv Z h b92 k92 .byte ci16 [cv0, cv0, cv0, cv0, cv0, cv0, cv0, cv0, cv0, cv0, cv0, cv0, cv0, cv0, cv0, cv0] cv0
set_option maxRecDepth 65536 in
set_option maxHeartbeats 40000000 in
theorem rm_AbstractStringBuilder_new_0 (l : Launch) (Z : State) (a0 : Array Value) (hw : ∀ d ∈ tables_1, d.before a0 Z = true) (ws : List Jvm.Cond) (b86 : Addr) (cs : Int32) (h0 : Heap) (n0 : Nat) (Z0 : n0 ≤ h0.size) (Z_S_COMPACT_STRINGS : Sta Z Z.heap xs25 xs28 "Z" (.int cs)) (O0 : Old Z n0 h0) (hcs : ¬ cs = ci0) (E_b86 : Exa Z h0 b86 xs13) (F_value_b86 : Fld Z h0 b86 xs9 "value" "[B" .null) (g_b86 : n0 ≤ b86) (F_coder_b86 : Fld Z h0 b86 xs9 "coder" "B" cv0) (F_count_b86 : Fld Z h0 b86 xs9 "count" "I" cv0) :
    MetFree l xm17 (head1 (Jvm.Cond.code xm17 jdk_68_method_2_code 2 none :: ws) xr1) (fun a U => a = #[(.ref b86), cv16] ∧ Z.Warmed39 U.vm ∧ U.heap = h0) (fun _ _ _ _ _ => True) (fun _ U o U' => ∃ v L, o = .returned v ∧ Q_AbstractStringBuilder_new_0 Z b86 cs h0 n0 v U'.heap L ∧ FrameEnd U o U' L xr1.cells xr1.slots) := by
  refine MetFree.of_bodySF (plainFor_of_name pn_5) hisR ?_
  intro p e s m args below meth c s₁ Bd hml0 hP hK
  obtain ⟨rfl, hZ, hh⟩ := hP
  have hx := Bd.exec
  have hby := Bd.bytes
  have hlk : meth.locks = false := BodyLoose.notSynchronized Bd
  have hml : c.maxLocals = 2 := hml0
  have hown : s.vm.findClass xs9 = some m.cls := findClass_of_methodNamed Bd.named
  have hnm := (name_of_methodNamed Bd.named Bd.method).1
  have X0 : Stand p l e xr1 s m #[(.ref b86), cv16] below meth c s₁ [] 0 0 := Stand.of_body Bd
  have e0 : s₁.heap = h0 := by rw [← hh, Bd.state]; rfl
  have N0 := Fr.nil n0
  show Go p e below s (Q_AbstractStringBuilder_new_0 Z b86 cs h0 n0) xr1.cells xr1.slots s₁ (entryFrame m #[(.ref b86), cv16] 2)
  refine Go.cast (ef_AbstractStringBuilder_new_0 m b86 ci16) ?_
  show Go p e below s _ _ _ s₁ (mkF m 0 #[vr b86, .val cv16] [])
  refine Go.step (fun _ k => XS.aloadN X0.here hx rfl (hb hby d10_0) rfl rfl k) ?_
  show Go p e below s _ _ _ s₁ (mkF m 1 #[vr b86, .val cv16] [(.ref b86)])
  obtain ⟨T90, X90, e90, st90⟩ := initO X0 hx hZ hown (tw73 hw) (tw19 hw) (tw20 hw) e0 (g := (mkF m 1 #[vr b86, .val cv16] [(.ref b86)])) rfl (by rw [hml]; rfl) rfl (hb hby d10_1) (by decide) (W := 0) (Nat.le_of_eq rfl) (by decide)
  refine Go.step (fun _ k => st90 _ k) ?_
  show Go p e below s _ _ _ T90 (mkF m 4 #[vr b86, .val cv16] [])
  obtain ⟨T91, X91, e91, st91⟩ := getS2 X90 hx hZ hown (host := "") (Or.inl (tw74 hw)) Via.refl e90 (Z_S_COMPACT_STRINGS.ext O0.2) (g := (mkF m 4 #[vr b86, .val cv16] [])) rfl (hb hby d10_4)
  refine Go.step (fun _ k => st91 _ (XS.ifNo X91.here hx rfl (hb hby d10_7) rfl ((if0 _ _).trans (feq hcs).1) (XS.aloadN X91.here hx rfl (hb hby d10_10) rfl rfl (XS.iloadN X91.here hx rfl (hb hby d10_11) rfl k)))) ?_
  show Go p e below s _ _ _ T91 (mkF m 12 #[vr b86, .val cv16] [cv16, (.ref b86)])
  obtain ⟨T92, h92, k92, X92, e92, E92, A92, st92⟩ := newP (aty := .byte) X91 hx hZ (tw26 hw) e91 (g := (mkF m 12 #[vr b86, .val cv16] [cv16, (.ref b86)])) rfl (hb hby d10_12) rfl (by decide) (cap := 16) (by decide) (by decide) (by decide) (by decide)
  obtain ⟨b92, g92⟩ : ∃ z, z = h0.size := ⟨_, rfl⟩
  rw [← g92] at A92 st92
  have f93 : Arv Z h92 b92 k92 .byte ci16 [cv0, cv0, cv0, cv0, cv0, cv0, cv0, cv0, cv0, cv0, cv0, cv0, cv0, cv0, cv0, cv0] cv0 := (Arv.new A92 (by decide)).pad (pad_rep [] cv0 16)
  refine Go.step (fun _ k => st92 _ k) ?_
  show Go p e below s _ _ _ T92 (mkF m 14 #[vr b86, .val cv16] [(.ref b92), (.ref b86)])
  have f94 := (F_value_b86.ext E92)
  have f95 := (E_b86.ext E92)
  obtain ⟨T96, h96, X96, e96, W96, st96⟩ := putF X92 hx hZ hown (host := "") (Or.inl (tw75 hw)) Via.refl e92 f94 f95 (Or.inl (tw76 hw)) (tw62 hw) (ty := (.array .byte)) (by decide) rfl rfl (g := (mkF m 14 #[vr b86, .val cv16] [(.ref b92), (.ref b86)])) rfl rfl (hb hby d10_14)
  have f98 := f94.same W96
  have N99 := Fr.snoc X96 N0 g_b86
  refine Go.step (fun _ k => st96 _ (XS.aloadN X96.here hx rfl (hb hby d10_17) rfl rfl (XS.iconst X96.here hx rfl (hb hby d10_18) k))) ?_
  show Go p e below s _ _ _ T96 (mkF m 19 #[vr b86, .val cv16] [cv0, (.ref b86)])
  have f100 := ((F_coder_b86.ext E92).other W96 (Or.inr (slot_ne (Or.inl (tw78 hw)) (Or.inl (tw76 hw)) (by decide) (t := .byte) (t' := (.array .byte)) (by decide) (by decide))))
  have f101 := (f95.wr W96)
  obtain ⟨T102, h102, X102, e102, W102, st102⟩ := putFN X96 hx hZ hown (tw77 hw) Via.refl e96 f100 f101 (Or.inl (tw78 hw)) (tw62 hw) (ty := .byte) (v' := cv0) (by decide) rfl rfl (g := (mkF m 19 #[vr b86, .val cv16] [cv0, (.ref b86)])) rfl rfl (hb hby d10_19)
  have f103 := f100.same W102
  have N104 := Fr.snoc X102 N99 g_b86
  refine Go.step (fun _ k => st102 _ (XS.goto X102.here hx rfl (pc0 := 22) (pc' := 38) rfl (hb hby d10_22) (by decide) (by decide) k)) ?_
  show Go p e below s _ _ _ T102 (mkF m 38 #[vr b86, .val cv16] [])
  have f105 := ((((Keep.refl h0 [b86]).ext E92).wr W96 (Or.inl (List.mem_of_getElem? (i := 0) rfl))).wr W102 (Or.inl (List.mem_of_getElem? (i := 0) rfl)))
  have f106 := (f98.other W102 (Or.inr (slot_ne (Or.inl (tw76 hw)) (Or.inl (tw78 hw)) (by decide) (t := (.array .byte)) (t' := .byte) (by decide) (by decide))))
  have f107 := (((F_count_b86.ext E92).other W96 (Or.inr (slot_ne (Or.inl (tw100 hw)) (Or.inl (tw76 hw)) (by decide) (t := .int) (t' := (.array .byte)) (by decide) (by decide)))).other W102 (Or.inr (slot_ne (Or.inl (tw100 hw)) (Or.inl (tw78 hw)) (by decide) (t := .int) (t' := .byte) (by decide) (by decide))))
  have z108 := Nat.le_trans (Nat.le_refl _) (Nat.le_of_eq g92.symm)
  have ne109 : b86 ≠ b92 := Nat.ne_of_lt (Nat.lt_of_lt_of_le E_b86.lt (Nat.le_of_eq g92.symm))
  have f110 := ((f93.other W96 (Ne.symm ne109)).other W102 (Ne.symm ne109))
  have f111 := (Nat.le_trans (Nat.le_trans (Nat.le_trans (Nat.le_refl _) E92.1) (Keep.of_wr W96).1) (Keep.of_wr W102).1)
  exact Go.retV X102 hx hlk Bd.returns (hb hby d10_38) e102 ⟨b92, k92, rfl, N104, f105, f106, f103, f107, z108, f110⟩ (by decide) (by decide)

theorem ef_StringBuilder_new_0 (m : MethodId) (x0 : Addr) : entryFrame m #[(.ref x0)] 1 = mkF m 0 #[vr x0] [] := by first | (simp [entryFrame, mkF, argsToLocals, Value.category]; done) | rfl
def Q_StringBuilder_new_0 (Z : State) (b86 : Addr) (cs : Int32) (h0 : Heap) (n0 : Nat) (v : Option Value) (h : Heap) (L : List Loc) : Prop := ∃ (uu4 : Addr) (uu5 : ClassId), v = none ∧ Fr n0 L ∧ Keep h0 h [b86] ∧ Fld Z h b86 xs9 "value" "[B" (.ref uu4) ∧ Fld Z h b86 xs9 "coder" "B" cv0 ∧ Fld Z h b86 xs9 "count" "I" cv0 ∧ h0.size ≤ uu4 ∧ Arv Z h uu4 uu5 .byte ci16 [cv0, cv0, cv0, cv0, cv0, cv0, cv0, cv0, cv0, cv0, cv0, cv0, cv0, cv0, cv0, cv0] cv0
set_option maxRecDepth 65536 in
set_option maxHeartbeats 40000000 in
theorem rm_StringBuilder_new_0 (l : Launch) (Z : State) (a0 : Array Value) (hw : ∀ d ∈ tables_1, d.before a0 Z = true) (ws : List Jvm.Cond) (b86 : Addr) (cs : Int32) (h0 : Heap) (n0 : Nat) (Z0 : n0 ≤ h0.size) (Z_S_COMPACT_STRINGS : Sta Z Z.heap xs25 xs28 "Z" (.int cs)) (O0 : Old Z n0 h0) (hcs : ¬ cs = ci0) (E_b86 : Exa Z h0 b86 xs13) (F_value_b86 : Fld Z h0 b86 xs9 "value" "[B" .null) (g_b86 : n0 ≤ b86) (F_coder_b86 : Fld Z h0 b86 xs9 "coder" "B" cv0) (F_count_b86 : Fld Z h0 b86 xs9 "count" "I" cv0) :
    MetFree l xm18 (head1 (Jvm.Cond.code xm18 jdk_67_method_1_code 1 none :: ws) xr2) (fun a U => a = #[(.ref b86)] ∧ Z.Warmed39 U.vm ∧ U.heap = h0) (fun _ _ _ _ _ => True) (fun _ U o U' => ∃ v L, o = .returned v ∧ Q_StringBuilder_new_0 Z b86 cs h0 n0 v U'.heap L ∧ FrameEnd U o U' L xr2.cells xr2.slots) := by
  refine MetFree.of_bodySF (plainFor_of_name pn_6) hisR ?_
  intro p e s m args below meth c s₁ Bd hml0 hP hK
  obtain ⟨rfl, hZ, hh⟩ := hP
  have hx := Bd.exec
  have hby := Bd.bytes
  have hlk : meth.locks = false := BodyLoose.notSynchronized Bd
  have hml : c.maxLocals = 1 := hml0
  have hown : s.vm.findClass xs13 = some m.cls := findClass_of_methodNamed Bd.named
  have hnm := (name_of_methodNamed Bd.named Bd.method).1
  have X0 : Stand p l e xr2 s m #[(.ref b86)] below meth c s₁ [] 0 0 := Stand.of_body Bd
  have e0 : s₁.heap = h0 := by rw [← hh, Bd.state]; rfl
  have N0 := Fr.nil n0
  show Go p e below s (Q_StringBuilder_new_0 Z b86 cs h0 n0) xr2.cells xr2.slots s₁ (entryFrame m #[(.ref b86)] 1)
  refine Go.cast (ef_StringBuilder_new_0 m b86) ?_
  show Go p e below s _ _ _ s₁ (mkF m 0 #[vr b86] [])
  refine Go.step (fun _ k => XS.aloadN X0.here hx rfl (hb hby d9_0) rfl rfl (XS.bipush X0.here hx rfl (hb hby d9_1) k)) ?_
  show Go p e below s _ _ _ s₁ (mkF m 3 #[vr b86] [cv16, (.ref b86)])
  obtain ⟨_, _, ⟨T112, L112, k112, n112⟩, -, X112, ⟨Lc112, hQ112, l112, y112, z112⟩, st112⟩ := X0.specialBack hx (y := xm17) rfl hown (mvT hZ (tw67 hw)) (mvT hZ (tw68 hw)) (mvT hZ (tw72 hw)) (by decide) (backOf (W := 0) (rm_AbstractStringBuilder_new_0 l Z a0 hw [] b86 cs h0 n0 Z0 Z_S_COMPACT_STRINGS O0 hcs E_b86 F_value_b86 g_b86 F_coder_b86 F_count_b86) hZ (tw72 hw) (tw71 hw) (by decide) (by decide)) (g := (mkF m 3 #[vr b86] [cv16, (.ref b86)])) rfl (by rw [hml]; rfl) (Steps.refl _) (a := b86) (argsL := [cv16]) (rest := []) (lenOf pd_6 rfl) rfl (Nat.le_of_eq rfl) (hb hby d9_3) (fun _ _ => ⟨rfl, e0, (by decide : 0 + 1 ≤ _), (by decide : 0 + 16 ≤ _)⟩)
  dsimp only [Pt.U, Pt.locs, Pt.cells, Pt.slots] at X112 l112 y112 z112 st112 hQ112
  subst l112 y112 z112
  obtain ⟨uu4, uu5, rfl, N112q, K112, P112_0, P112_1, P112_2, P112_3, P112_4⟩ := hQ112
  have N113 := Fr.app N0 N112q
  refine Go.step (fun _ k => st112.trans k) ?_
  show Go p e below s _ _ _ T112 (mkF m 6 #[vr b86] [])
  have f114 := ((Keep.refl h0 [b86]).trans K112 (allS (Or.inl (List.mem_of_getElem? (i := 0) rfl)) all0))
  have z115 := Nat.le_trans (Nat.le_refl _) P112_3
  have f116 := (Nat.le_trans (Nat.le_refl _) K112.1)
  exact Go.retV X112 hx hlk Bd.returns (hb hby d9_6) rfl ⟨uu4, uu5, rfl, N113, f114, P112_0, P112_1, P112_2, z115, P112_4⟩ (by decide) (by decide)

theorem ef_String_coder_0 (m : MethodId) (x0 : Addr) : entryFrame m #[(.ref x0)] 1 = mkF m 0 #[vr x0] [] := by first | (simp [entryFrame, mkF, argsToLocals, Value.category]; done) | rfl
def Q_String_coder_0 (Z : State) (uu2 : Addr) (cs : Int32) (h0 : Heap) (n0 : Nat) (v : Option Value) (h : Heap) (L : List Loc) : Prop := v = some cv0 ∧ Fr n0 L ∧ h = h0
set_option maxRecDepth 65536 in
set_option maxHeartbeats 40000000 in
theorem rm_String_coder_0 (l : Launch) (Z : State) (a0 : Array Value) (hw : ∀ d ∈ tables_1, d.before a0 Z = true) (ws : List Jvm.Cond) (uu2 : Addr) (cs : Int32) (h0 : Heap) (n0 : Nat) (Z0 : n0 ≤ h0.size) (Z_S_COMPACT_STRINGS : Sta Z Z.heap xs25 xs28 "Z" (.int cs)) (O0 : Old Z n0 h0) (hcs : ¬ cs = ci0) (F_coder_b6_57 : Fld Z h0 uu2 xs25 "coder" "B" cv0) :
    MetFree l xm23 (head1 (Jvm.Cond.code xm23 jdk_42_method_152_code 1 (some .byte) :: ws) xr34) (fun a U => a = #[(.ref uu2)] ∧ Z.Warmed39 U.vm ∧ U.heap = h0) (fun _ _ _ _ _ => True) (fun _ U o U' => ∃ v L, o = .returned v ∧ Q_String_coder_0 Z uu2 cs h0 n0 v U'.heap L ∧ FrameEnd U o U' L xr34.cells xr34.slots) := by
  refine MetFree.of_bodySF (plainFor_of_name pn_1) hisR ?_
  intro p e s m args below meth c s₁ Bd hml0 hP hK
  obtain ⟨rfl, hZ, hh⟩ := hP
  have hx := Bd.exec
  have hby := Bd.bytes
  have hlk : meth.locks = false := BodyLoose.notSynchronized Bd
  have hml : c.maxLocals = 1 := hml0
  have hown : s.vm.findClass xs25 = some m.cls := findClass_of_methodNamed Bd.named
  have hnm := (name_of_methodNamed Bd.named Bd.method).1
  have X0 : Stand p l e xr34 s m #[(.ref uu2)] below meth c s₁ [] 0 0 := Stand.of_body Bd
  have e0 : s₁.heap = h0 := by rw [← hh, Bd.state]; rfl
  have N0 := Fr.nil n0
  show Go p e below s (Q_String_coder_0 Z uu2 cs h0 n0) xr34.cells xr34.slots s₁ (entryFrame m #[(.ref uu2)] 1)
  refine Go.cast (ef_String_coder_0 m uu2) ?_
  show Go p e below s _ _ _ s₁ (mkF m 0 #[vr uu2] [])
  obtain ⟨T128, X128, e128, st128⟩ := getS2 X0 hx hZ hown (host := "") (Or.inl (tw21 hw)) Via.refl e0 (Z_S_COMPACT_STRINGS.ext O0.2) (g := (mkF m 0 #[vr uu2] [])) rfl (hb hby d14_0)
  refine Go.step (fun _ k => st128 _ (XS.ifNo X128.here hx rfl (hb hby d14_3) rfl ((if0 _ _).trans (feq hcs).1) (XS.aloadN X128.here hx rfl (hb hby d14_6) rfl rfl k))) ?_
  show Go p e below s _ _ _ T128 (mkF m 7 #[vr uu2] [(.ref uu2)])
  obtain ⟨T129, X129, e129, st129⟩ := getF X128 hx hZ hown (host := "") (Or.inl (tw33 hw)) Via.refl e128 F_coder_b6_57 (g := (mkF m 7 #[vr uu2] [(.ref uu2)])) rfl rfl (hb hby d14_7)
  refine Go.step (fun _ k => st129 _ (XS.goto X129.here hx rfl (pc0 := 10) (pc' := 14) rfl (hb hby d14_10) (by decide) (by decide) k)) ?_
  show Go p e below s _ _ _ T129 (mkF m 14 #[vr uu2] [cv0])
  exact Go.retN X129 hx hlk (t := .byte) Bd.returns (by simp) (hb hby d14_14) e129 ⟨rfl, N0, rfl⟩ (by decide) (by decide)

theorem ef_String_length_0 (m : MethodId) (x0 : Addr) : entryFrame m #[(.ref x0)] 1 = mkF m 0 #[vr x0] [] := by first | (simp [entryFrame, mkF, argsToLocals, Value.category]; done) | rfl
def Q_String_length_0 (Z : State) (uu2 : Addr) (uu6 : Addr) (kb13_41_49_57 : ClassId) (n125 : Int32) (l126 : List Value) (cs : Int32) (h0 : Heap) (n0 : Nat) (v : Option Value) (h : Heap) (L : List Loc) : Prop := v = some (.int (n125 >>> (ci0 &&& 31))) ∧ Fr n0 L ∧ h = h0
set_option maxRecDepth 65536 in
set_option maxHeartbeats 40000000 in
theorem rm_String_length_0 (l : Launch) (Z : State) (a0 : Array Value) (hw : ∀ d ∈ tables_1, d.before a0 Z = true) (ws : List Jvm.Cond) (uu2 : Addr) (uu6 : Addr) (kb13_41_49_57 : ClassId) (n125 : Int32) (l126 : List Value) (cs : Int32) (h0 : Heap) (n0 : Nat) (Z0 : n0 ≤ h0.size) (F_value_b6_57 : Fld Z h0 uu2 xs25 "value" "[B" (.ref uu6)) (V_b13_41_49_57 : Arv Z h0 uu6 kb13_41_49_57 .byte n125 l126 cv0) (E_b6_57 : Exa Z h0 uu2 xs25) (Z_S_COMPACT_STRINGS : Sta Z Z.heap xs25 xs28 "Z" (.int cs)) (O0 : Old Z n0 h0) (hcs : ¬ cs = ci0) (F_coder_b6_57 : Fld Z h0 uu2 xs25 "coder" "B" cv0) :
    MetFree l xm19 (head1 (Jvm.Cond.code xm19 jdk_42_method_54_code 1 (some .int) :: ws) xr15) (fun a U => a = #[(.ref uu2)] ∧ Z.Warmed39 U.vm ∧ U.heap = h0) (fun _ _ _ _ _ => True) (fun _ U o U' => ∃ v L, o = .returned v ∧ Q_String_length_0 Z uu2 uu6 kb13_41_49_57 n125 l126 cs h0 n0 v U'.heap L ∧ FrameEnd U o U' L xr15.cells xr15.slots) := by
  refine MetFree.of_bodySF (plainFor_of_name pn_1) hisR ?_
  intro p e s m args below meth c s₁ Bd hml0 hP hK
  obtain ⟨rfl, hZ, hh⟩ := hP
  have hx := Bd.exec
  have hby := Bd.bytes
  have hlk : meth.locks = false := BodyLoose.notSynchronized Bd
  have hml : c.maxLocals = 1 := hml0
  have hown : s.vm.findClass xs25 = some m.cls := findClass_of_methodNamed Bd.named
  have hnm := (name_of_methodNamed Bd.named Bd.method).1
  have X0 : Stand p l e xr15 s m #[(.ref uu2)] below meth c s₁ [] 0 0 := Stand.of_body Bd
  have e0 : s₁.heap = h0 := by rw [← hh, Bd.state]; rfl
  have N0 := Fr.nil n0
  show Go p e below s (Q_String_length_0 Z uu2 uu6 kb13_41_49_57 n125 l126 cs h0 n0) xr15.cells xr15.slots s₁ (entryFrame m #[(.ref uu2)] 1)
  refine Go.cast (ef_String_length_0 m uu2) ?_
  show Go p e below s _ _ _ s₁ (mkF m 0 #[vr uu2] [])
  refine Go.step (fun _ k => XS.aloadN X0.here hx rfl (hb hby d13_0) rfl rfl k) ?_
  show Go p e below s _ _ _ s₁ (mkF m 1 #[vr uu2] [(.ref uu2)])
  obtain ⟨T124, X124, e124, st124⟩ := getF X0 hx hZ hown (host := "") (Or.inl (tw35 hw)) Via.refl e0 F_value_b6_57 (g := (mkF m 1 #[vr uu2] [(.ref uu2)])) rfl rfl (hb hby d13_1)
  refine Go.step (fun _ k => st124 _ k) ?_
  show Go p e below s _ _ _ T124 (mkF m 4 #[vr uu2] [(.ref uu6)])
  obtain ⟨cl127, Ar127, -, Sz127, Ng127, -, -⟩ := id V_b13_41_49_57
  have aln127 := X124.arraylength hx (by rw [e124]; exact Ar127.1) (State.isArrayOf_alike hZ.alike Ar127.2.1) (g := (mkF m 4 #[vr uu2] [(.ref uu6)])) rfl rfl (hb hby d13_4)
  rw [len_of Sz127 Ng127] at aln127
  refine Go.step (fun _ k => aln127 _ (XS.aloadN X124.here hx rfl (hb hby d13_5) rfl rfl k)) ?_
  show Go p e below s _ _ _ T124 (mkF m 6 #[vr uu2] [(.ref uu2), (.int n125)])
  obtain ⟨cq130, kq130, q130a, q130b, q130c⟩ := isOf hZ e124 E_b6_57
  obtain ⟨_, _, ⟨T130, L130, k130, n130⟩, -, X130, ⟨Lc130, hQ130, l130, y130, z130⟩, st130⟩ := X124.virtualBack hx (y := xm23) (z := xm23) hown (mvT hZ (tw94 hw)) (mvT hZ (tw95 hw)) (notFace_of_selects (args := #[]) (mvT hZ (tw97 hw))) (mvT hZ (tw97 hw)) (mvT hZ (tw96 hw)) (by decide) (backOf (W := 1) (rm_String_coder_0 l Z a0 hw [] uu2 cs h0 n0 Z0 Z_S_COMPACT_STRINGS O0 hcs F_coder_b6_57) hZ (tw98 hw) (tw6 hw) (by decide) (by decide)) q130a q130c (g := (mkF m 6 #[vr uu2] [(.ref uu2), (.int n125)])) rfl (by rw [hml]; rfl) (Steps.refl _) (argsL := []) (rest := [(.int n125)]) (lenOf pd_7 rfl) rfl (Nat.le_of_eq rfl) (hb hby d13_6) (fun _ _ => ⟨rfl, e124, (by decide : 0 + 0 ≤ _), (by decide : 0 + 0 ≤ _)⟩)
  dsimp only [Pt.U, Pt.locs, Pt.cells, Pt.slots] at X130 l130 y130 z130 st130 hQ130
  subst l130 y130 z130
  obtain ⟨rfl, N130q, eq130⟩ := hQ130
  have N131 := Fr.app N0 N130q
  refine Go.step (fun _ k => st130.trans (XS.ishr X130.here hx rfl (hb hby d13_9) rfl k)) ?_
  show Go p e below s _ _ _ T130 (mkF m 10 #[vr uu2] [(.int (n125 >>> (ci0 &&& 31)))])
  exact Go.retI X130 hx hlk Bd.returns (hb hby d13_10) eq130 ⟨rfl, N131, rfl⟩ (by decide) (by decide)

theorem ef_AbstractStringBuilder_ensureCapacityInternal_0 (m : MethodId) (x0 : Addr) (x1 : Int32) : entryFrame m #[(.ref x0), (.int x1)] 3 = mkF m 0 #[vr x0, vi x1, .unset] [] := by first | (simp [entryFrame, mkF, argsToLocals, Value.category]; done) | rfl
def Q_AbstractStringBuilder_ensureCapacityInternal_0 (Z : State) (b86 : Addr) (n136 : Int32) (uu7 : Addr) (uu8 : ClassId) (l138 : List Value) (h0 : Heap) (n0 : Nat) (v : Option Value) (h : Heap) (L : List Loc) : Prop := v = none ∧ Fr n0 L ∧ h = h0
set_option maxRecDepth 65536 in
set_option maxHeartbeats 40000000 in
theorem rm_AbstractStringBuilder_ensureCapacityInternal_0 (l : Launch) (Z : State) (a0 : Array Value) (hw : ∀ d ∈ tables_1, d.before a0 Z = true) (ws : List Jvm.Cond) (b86 : Addr) (n136 : Int32) (uu7 : Addr) (uu8 : ClassId) (l138 : List Value) (h0 : Heap) (n0 : Nat) (Z0 : n0 ≤ h0.size) (F_value_b86 : Fld Z h0 b86 xs9 "value" "[B" (.ref uu7)) (V_b92_112_119 : Arv Z h0 uu7 uu8 .byte ci16 l138 cv0) (F_coder_b86 : Fld Z h0 b86 xs9 "coder" "B" cv0) (d_141 : ¬ ci0 < (n136 - ci16)) :
    MetFree l xm34 (head1 (Jvm.Cond.code xm34 jdk_68_method_9_code 3 none :: ws) xr34) (fun a U => a = #[(.ref b86), (.int n136)] ∧ Z.Warmed39 U.vm ∧ U.heap = h0) (fun _ _ _ _ _ => True) (fun _ U o U' => ∃ v L, o = .returned v ∧ Q_AbstractStringBuilder_ensureCapacityInternal_0 Z b86 n136 uu7 uu8 l138 h0 n0 v U'.heap L ∧ FrameEnd U o U' L xr34.cells xr34.slots) := by
  refine MetFree.of_bodySF (plainFor_of_name pn_5) hisR ?_
  intro p e s m args below meth c s₁ Bd hml0 hP hK
  obtain ⟨rfl, hZ, hh⟩ := hP
  have hx := Bd.exec
  have hby := Bd.bytes
  have hlk : meth.locks = false := BodyLoose.notSynchronized Bd
  have hml : c.maxLocals = 3 := hml0
  have hown : s.vm.findClass xs9 = some m.cls := findClass_of_methodNamed Bd.named
  have hnm := (name_of_methodNamed Bd.named Bd.method).1
  have X0 : Stand p l e xr34 s m #[(.ref b86), (.int n136)] below meth c s₁ [] 0 0 := Stand.of_body Bd
  have e0 : s₁.heap = h0 := by rw [← hh, Bd.state]; rfl
  have N0 := Fr.nil n0
  show Go p e below s (Q_AbstractStringBuilder_ensureCapacityInternal_0 Z b86 n136 uu7 uu8 l138 h0 n0) xr34.cells xr34.slots s₁ (entryFrame m #[(.ref b86), (.int n136)] 3)
  refine Go.cast (ef_AbstractStringBuilder_ensureCapacityInternal_0 m b86 n136) ?_
  show Go p e below s _ _ _ s₁ (mkF m 0 #[vr b86, vi n136, .unset] [])
  refine Go.step (fun _ k => XS.aloadN X0.here hx rfl (hb hby d15_0) rfl rfl k) ?_
  show Go p e below s _ _ _ s₁ (mkF m 1 #[vr b86, vi n136, .unset] [(.ref b86)])
  obtain ⟨T137, X137, e137, st137⟩ := getF X0 hx hZ hown (host := "") (Or.inl (tw75 hw)) Via.refl e0 F_value_b86 (g := (mkF m 1 #[vr b86, vi n136, .unset] [(.ref b86)])) rfl rfl (hb hby d15_1)
  refine Go.step (fun _ k => st137 _ k) ?_
  show Go p e below s _ _ _ T137 (mkF m 4 #[vr b86, vi n136, .unset] [(.ref uu7)])
  obtain ⟨cl139, Ar139, -, Sz139, Ng139, -, -⟩ := id V_b92_112_119
  have aln139 := X137.arraylength hx (by rw [e137]; exact Ar139.1) (State.isArrayOf_alike hZ.alike Ar139.2.1) (g := (mkF m 4 #[vr b86, vi n136, .unset] [(.ref uu7)])) rfl rfl (hb hby d15_4)
  rw [len_of Sz139 Ng139] at aln139
  refine Go.step (fun _ k => aln139 _ (XS.aloadN X137.here hx rfl (hb hby d15_5) rfl rfl k)) ?_
  show Go p e below s _ _ _ T137 (mkF m 6 #[vr b86, vi n136, .unset] [(.ref b86), cv16])
  obtain ⟨T140, X140, e140, st140⟩ := getF X137 hx hZ hown (host := "") (Or.inl (tw77 hw)) Via.refl e137 F_coder_b86 (g := (mkF m 6 #[vr b86, vi n136, .unset] [(.ref b86), cv16])) rfl rfl (hb hby d15_6)
  refine Go.step (fun _ k => st140 _ (XS.ishr X140.here hx rfl (hb hby d15_9) rfl (XS.istoreN X140.here hx rfl (hb hby d15_10) rfl (l' := #[vr b86, vi n136, .val cv16]) rfl (XS.iloadN X140.here hx rfl (hb hby d15_11) rfl (XS.iloadN X140.here hx rfl (hb hby d15_12) rfl (XS.isub X140.here hx rfl (hb hby d15_13) rfl (XS.ifYes X140.here hx rfl (pc0 := 14) (pc' := 38) rfl (hb hby d15_14) rfl ((if0 _ _).trans (flt d_141).2.2.2) (by decide) (by decide) k))))))) ?_
  show Go p e below s _ _ _ T140 (mkF m 38 #[vr b86, vi n136, .val cv16] [])
  exact Go.retV X140 hx hlk Bd.returns (hb hby d15_38) e140 ⟨rfl, N0, rfl⟩ (by decide) (by decide)

theorem ef_AbstractStringBuilder_inflateIfNeededFor_0 (m : MethodId) (x0 : Addr) (x1 : Addr) : entryFrame m #[(.ref x0), (.ref x1)] 2 = mkF m 0 #[vr x0, vr x1] [] := by first | (simp [entryFrame, mkF, argsToLocals, Value.category]; done) | rfl
def Q_AbstractStringBuilder_inflateIfNeededFor_0 (Z : State) (b86 : Addr) (uu2 : Addr) (cs : Int32) (h0 : Heap) (n0 : Nat) (v : Option Value) (h : Heap) (L : List Loc) : Prop := v = none ∧ Fr n0 L ∧ h = h0
set_option maxRecDepth 65536 in
set_option maxHeartbeats 40000000 in
theorem rm_AbstractStringBuilder_inflateIfNeededFor_0 (l : Launch) (Z : State) (a0 : Array Value) (hw : ∀ d ∈ tables_1, d.before a0 Z = true) (ws : List Jvm.Cond) (b86 : Addr) (uu2 : Addr) (cs : Int32) (h0 : Heap) (n0 : Nat) (Z0 : n0 ≤ h0.size) (Z_S_COMPACT_STRINGS : Sta Z Z.heap xs25 xs28 "Z" (.int cs)) (O0 : Old Z n0 h0) (hcs : ¬ cs = ci0) (F_coder_b86 : Fld Z h0 b86 xs9 "coder" "B" cv0) (E_b6_57 : Exa Z h0 uu2 xs25) (F_coder_b6_57 : Fld Z h0 uu2 xs25 "coder" "B" cv0) :
    MetFree l xm35 (head1 (Jvm.Cond.code xm35 jdk_68_method_71_code 2 none :: ws) xr15) (fun a U => a = #[(.ref b86), (.ref uu2)] ∧ Z.Warmed39 U.vm ∧ U.heap = h0) (fun _ _ _ _ _ => True) (fun _ U o U' => ∃ v L, o = .returned v ∧ Q_AbstractStringBuilder_inflateIfNeededFor_0 Z b86 uu2 cs h0 n0 v U'.heap L ∧ FrameEnd U o U' L xr15.cells xr15.slots) := by
  refine MetFree.of_bodySF (plainFor_of_name pn_5) hisR ?_
  intro p e s m args below meth c s₁ Bd hml0 hP hK
  obtain ⟨rfl, hZ, hh⟩ := hP
  have hx := Bd.exec
  have hby := Bd.bytes
  have hlk : meth.locks = false := BodyLoose.notSynchronized Bd
  have hml : c.maxLocals = 2 := hml0
  have hown : s.vm.findClass xs9 = some m.cls := findClass_of_methodNamed Bd.named
  have hnm := (name_of_methodNamed Bd.named Bd.method).1
  have X0 : Stand p l e xr15 s m #[(.ref b86), (.ref uu2)] below meth c s₁ [] 0 0 := Stand.of_body Bd
  have e0 : s₁.heap = h0 := by rw [← hh, Bd.state]; rfl
  have N0 := Fr.nil n0
  show Go p e below s (Q_AbstractStringBuilder_inflateIfNeededFor_0 Z b86 uu2 cs h0 n0) xr15.cells xr15.slots s₁ (entryFrame m #[(.ref b86), (.ref uu2)] 2)
  refine Go.cast (ef_AbstractStringBuilder_inflateIfNeededFor_0 m b86 uu2) ?_
  show Go p e below s _ _ _ s₁ (mkF m 0 #[vr b86, vr uu2] [])
  obtain ⟨T146, X146, e146, st146⟩ := getS2 X0 hx hZ hown (host := "") (Or.inl (tw74 hw)) Via.refl e0 (Z_S_COMPACT_STRINGS.ext O0.2) (g := (mkF m 0 #[vr b86, vr uu2] [])) rfl (hb hby d17_0)
  refine Go.step (fun _ k => st146 _ (XS.ifNo X146.here hx rfl (hb hby d17_3) rfl ((if0 _ _).trans (feq hcs).1) (XS.aloadN X146.here hx rfl (hb hby d17_6) rfl rfl k))) ?_
  show Go p e below s _ _ _ T146 (mkF m 7 #[vr b86, vr uu2] [(.ref b86)])
  obtain ⟨T147, X147, e147, st147⟩ := getF X146 hx hZ hown (host := "") (Or.inl (tw77 hw)) Via.refl e146 F_coder_b86 (g := (mkF m 7 #[vr b86, vr uu2] [(.ref b86)])) rfl rfl (hb hby d17_7)
  refine Go.step (fun _ k => st147 _ (XS.aloadN X147.here hx rfl (hb hby d17_10) rfl rfl k)) ?_
  show Go p e below s _ _ _ T147 (mkF m 11 #[vr b86, vr uu2] [(.ref uu2), cv0])
  obtain ⟨cq148, kq148, q148a, q148b, q148c⟩ := isOf hZ e147 E_b6_57
  obtain ⟨_, _, ⟨T148, L148, k148, n148⟩, -, X148, ⟨Lc148, hQ148, l148, y148, z148⟩, st148⟩ := X147.virtualBack hx (y := xm23) (z := xm23) hown (mvT hZ (tw116 hw)) (mvT hZ (tw95 hw)) (notFace_of_selects (args := #[]) (mvT hZ (tw97 hw))) (mvT hZ (tw97 hw)) (mvT hZ (tw96 hw)) (by decide) (backOf (W := 1) (rm_String_coder_0 l Z a0 hw [] uu2 cs h0 n0 Z0 Z_S_COMPACT_STRINGS O0 hcs F_coder_b6_57) hZ (tw98 hw) (tw6 hw) (by decide) (by decide)) q148a q148c (g := (mkF m 11 #[vr b86, vr uu2] [(.ref uu2), cv0])) rfl (by rw [hml]; rfl) (Steps.refl _) (argsL := []) (rest := [cv0]) (lenOf pd_7 rfl) rfl (Nat.le_of_eq rfl) (hb hby d17_11) (fun _ _ => ⟨rfl, e147, (by decide : 0 + 0 ≤ _), (by decide : 0 + 0 ≤ _)⟩)
  dsimp only [Pt.U, Pt.locs, Pt.cells, Pt.slots] at X148 l148 y148 z148 st148 hQ148
  subst l148 y148 z148
  obtain ⟨rfl, N148q, eq148⟩ := hQ148
  have N149 := Fr.app N0 N148q
  refine Go.step (fun _ k => st148.trans (XS.icmpYes X148.here hx rfl (pc0 := 14) (pc' := 21) rfl (hb hby d17_14) rfl (teq (by decide)).1 (by decide) (by decide) k)) ?_
  show Go p e below s _ _ _ T148 (mkF m 21 #[vr b86, vr uu2] [])
  exact Go.retV X148 hx hlk Bd.returns (hb hby d17_21) eq148 ⟨rfl, N149, rfl⟩ (by decide) (by decide)

theorem ef_String_getBytes_0 (m : MethodId) (x0 : Addr) (x1 : Addr) (x2 : Int32) (x3 : Int32) : entryFrame m #[(.ref x0), (.ref x1), (.int x2), (.int x3)] 4 = mkF m 0 #[vr x0, vr x1, vi x2, vi x3] [] := by first | (simp [entryFrame, mkF, argsToLocals, Value.category]; done) | rfl
def Q_String_getBytes_0 (Z : State) (uu2 : Addr) (uu7 : Addr) (n134 : Int32) (cs : Int32) (uu6 : Addr) (kb13_41_49_57 : ClassId) (n125 : Int32) (l126 : List Value) (uu8 : ClassId) (l138 : List Value) (h0 : Heap) (n0 : Nat) (v : Option Value) (h : Heap) (L : List Loc) : Prop := v = none ∧ Fr n0 L ∧ Keep h0 h [uu7] ∧ Arv Z h uu7 uu8 .byte ci16 (own_cp l138 (n134 <<< (ci0 &&& 31)) l126 ci0 n125 cv0) cv0
set_option maxRecDepth 65536 in
set_option maxHeartbeats 40000000 in
theorem rm_String_getBytes_0 (l : Launch) (Z : State) (a0 : Array Value) (hw : ∀ d ∈ tables_1, d.before a0 Z = true) (ws : List Jvm.Cond) (uu2 : Addr) (uu7 : Addr) (n134 : Int32) (cs : Int32) (uu6 : Addr) (kb13_41_49_57 : ClassId) (n125 : Int32) (l126 : List Value) (uu8 : ClassId) (l138 : List Value) (h0 : Heap) (n0 : Nat) (Z0 : n0 ≤ h0.size) (E_b6_57 : Exa Z h0 uu2 xs25) (F_coder_b6_57 : Fld Z h0 uu2 xs25 "coder" "B" cv0) (Z_S_COMPACT_STRINGS : Sta Z Z.heap xs25 xs28 "Z" (.int cs)) (O0 : Old Z n0 h0) (hcs : ¬ cs = ci0) (F_value_b6_57 : Fld Z h0 uu2 xs25 "value" "[B" (.ref uu6)) (V_b13_41_49_57 : Arv Z h0 uu6 kb13_41_49_57 .byte n125 l126 cv0) (V_b92_112_119 : Arv Z h0 uu7 uu8 .byte ci16 l138 cv0) (g_b92_112_119 : n0 ≤ uu7) (d_161 : ¬ (n134 <<< (ci0 &&& 31)) < ci0) (d_162 : ¬ n125 < ci0) (d_163 : (ci0).toNatClampNeg + (n125).toNatClampNeg ≤ (n125).toNatClampNeg) (d_164 : ((n134 <<< (ci0 &&& 31))).toNatClampNeg + (n125).toNatClampNeg ≤ (ci16).toNatClampNeg) (d_165 : ((n134 <<< (ci0 &&& 31))).toNatClampNeg + (n125).toNatClampNeg ≤ (l138 : List Value).length) :
    MetFree l xm5 (head1 (Jvm.Cond.code xm5 jdk_42_method_147_code 4 none :: ws) xr16) (fun a U => a = #[(.ref uu2), (.ref uu7), (.int n134), cv0] ∧ Z.Warmed39 U.vm ∧ U.heap = h0) (fun _ _ _ _ _ => True) (fun _ U o U' => ∃ v L, o = .returned v ∧ Q_String_getBytes_0 Z uu2 uu7 n134 cs uu6 kb13_41_49_57 n125 l126 uu8 l138 h0 n0 v U'.heap L ∧ FrameEnd U o U' L xr16.cells xr16.slots) := by
  refine MetFree.of_bodySF (plainFor_of_name pn_1) hisR ?_
  intro p e s m args below meth c s₁ Bd hml0 hP hK
  obtain ⟨rfl, hZ, hh⟩ := hP
  have hx := Bd.exec
  have hby := Bd.bytes
  have hlk : meth.locks = false := BodyLoose.notSynchronized Bd
  have hml : c.maxLocals = 4 := hml0
  have hown : s.vm.findClass xs25 = some m.cls := findClass_of_methodNamed Bd.named
  have hnm := (name_of_methodNamed Bd.named Bd.method).1
  have X0 : Stand p l e xr16 s m #[(.ref uu2), (.ref uu7), (.int n134), cv0] below meth c s₁ [] 0 0 := Stand.of_body Bd
  have e0 : s₁.heap = h0 := by rw [← hh, Bd.state]; rfl
  have N0 := Fr.nil n0
  show Go p e below s (Q_String_getBytes_0 Z uu2 uu7 n134 cs uu6 kb13_41_49_57 n125 l126 uu8 l138 h0 n0) xr16.cells xr16.slots s₁ (entryFrame m #[(.ref uu2), (.ref uu7), (.int n134), cv0] 4)
  refine Go.cast (ef_String_getBytes_0 m uu2 uu7 n134 ci0) ?_
  show Go p e below s _ _ _ s₁ (mkF m 0 #[vr uu2, vr uu7, vi n134, .val cv0] [])
  refine Go.step (fun _ k => XS.aloadN X0.here hx rfl (hb hby d18_0) rfl rfl k) ?_
  show Go p e below s _ _ _ s₁ (mkF m 1 #[vr uu2, vr uu7, vi n134, .val cv0] [(.ref uu2)])
  obtain ⟨cq154, kq154, q154a, q154b, q154c⟩ := isOf hZ e0 E_b6_57
  obtain ⟨_, _, ⟨T154, L154, k154, n154⟩, -, X154, ⟨Lc154, hQ154, l154, y154, z154⟩, st154⟩ := X0.virtualBack hx (y := xm23) (z := xm23) hown (mvT hZ (tw94 hw)) (mvT hZ (tw95 hw)) (notFace_of_selects (args := #[]) (mvT hZ (tw97 hw))) (mvT hZ (tw97 hw)) (mvT hZ (tw96 hw)) (by decide) (backOf (W := 0) (rm_String_coder_0 l Z a0 hw [] uu2 cs h0 n0 Z0 Z_S_COMPACT_STRINGS O0 hcs F_coder_b6_57) hZ (tw98 hw) (tw6 hw) (by decide) (by decide)) q154a q154c (g := (mkF m 1 #[vr uu2, vr uu7, vi n134, .val cv0] [(.ref uu2)])) rfl (by rw [hml]; rfl) (Steps.refl _) (argsL := []) (rest := []) (lenOf pd_7 rfl) rfl (Nat.le_of_eq rfl) (hb hby d18_1) (fun _ _ => ⟨rfl, e0, (by decide : 0 + 0 ≤ _), (by decide : 0 + 0 ≤ _)⟩)
  dsimp only [Pt.U, Pt.locs, Pt.cells, Pt.slots] at X154 l154 y154 z154 st154 hQ154
  subst l154 y154 z154
  obtain ⟨rfl, N154q, eq154⟩ := hQ154
  have N155 := Fr.app N0 N154q
  refine Go.step (fun _ k => st154.trans (XS.iloadN X154.here hx rfl (hb hby d18_4) rfl (XS.icmpNo X154.here hx rfl (hb hby d18_5) rfl (teq (by decide)).2 (XS.aloadN X154.here hx rfl (hb hby d18_8) rfl rfl k)))) ?_
  show Go p e below s _ _ _ T154 (mkF m 9 #[vr uu2, vr uu7, vi n134, .val cv0] [(.ref uu2)])
  obtain ⟨T156, X156, e156, st156⟩ := getF X154 hx hZ hown (host := "") (Or.inl (tw35 hw)) Via.refl eq154 F_value_b6_57 (g := (mkF m 9 #[vr uu2, vr uu7, vi n134, .val cv0] [(.ref uu2)])) rfl rfl (hb hby d18_9)
  refine Go.step (fun _ k => st156 _ (XS.iconst X156.here hx rfl (hb hby d18_12) (XS.aloadN X156.here hx rfl (hb hby d18_13) rfl rfl (XS.iloadN X156.here hx rfl (hb hby d18_14) rfl (XS.iloadN X156.here hx rfl (hb hby d18_15) rfl (XS.ishl X156.here hx rfl (hb hby d18_16) rfl (XS.aloadN X156.here hx rfl (hb hby d18_17) rfl rfl k))))))) ?_
  show Go p e below s _ _ _ T156 (mkF m 18 #[vr uu2, vr uu7, vi n134, .val cv0] [(.ref uu2), (.int (n134 <<< (ci0 &&& 31))), (.ref uu7), cv0, (.ref uu6)])
  obtain ⟨T157, X157, e157, st157⟩ := getF X156 hx hZ hown (host := "") (Or.inl (tw35 hw)) Via.refl e156 F_value_b6_57 (g := (mkF m 18 #[vr uu2, vr uu7, vi n134, .val cv0] [(.ref uu2), (.int (n134 <<< (ci0 &&& 31))), (.ref uu7), cv0, (.ref uu6)])) rfl rfl (hb hby d18_18)
  refine Go.step (fun _ k => st157 _ k) ?_
  show Go p e below s _ _ _ T157 (mkF m 21 #[vr uu2, vr uu7, vi n134, .val cv0] [(.ref uu6), (.int (n134 <<< (ci0 &&& 31))), (.ref uu7), cv0, (.ref uu6)])
  obtain ⟨cl158, Ar158, -, Sz158, Ng158, -, -⟩ := id V_b13_41_49_57
  have aln158 := X157.arraylength hx (by rw [e157]; exact Ar158.1) (State.isArrayOf_alike hZ.alike Ar158.2.1) (g := (mkF m 21 #[vr uu2, vr uu7, vi n134, .val cv0] [(.ref uu6), (.int (n134 <<< (ci0 &&& 31))), (.ref uu7), cv0, (.ref uu6)])) rfl rfl (hb hby d18_21)
  rw [len_of Sz158 Ng158] at aln158
  refine Go.step (fun _ k => aln158 _ k) ?_
  show Go p e below s _ _ _ T157 (mkF m 22 #[vr uu2, vr uu7, vi n134, .val cv0] [(.int n125), (.int (n134 <<< (ci0 &&& 31))), (.ref uu7), cv0, (.ref uu6)])
  obtain ⟨T159, h159, L159, X159, e159, N159, K159, V159, st159⟩ := cpA X157 hx hZ hown (tw122 hw) (tw125 hw) (tw123 hw) (tw124 hw) e157 V_b13_41_49_57 V_b92_112_119 (Or.inl ⟨rfl, rfl⟩) (by decide) d_161 d_162 d_163 d_164 rfl d_165 N155 g_b92_112_119 (g := (mkF m 22 #[vr uu2, vr uu7, vi n134, .val cv0] [(.int n125), (.int (n134 <<< (ci0 &&& 31))), (.ref uu7), cv0, (.ref uu6)])) rfl (by rw [hml]; rfl) rfl (hb hby d18_22) (by decide) (W := 0) (Nat.le_of_eq rfl) (by decide)
  have f166 : Arv Z h159 uu7 uu8 .byte ci16 (own_cp l138 (n134 <<< (ci0 &&& 31)) l126 ci0 n125 cv0) cv0 := V159
  refine Go.step (fun _ k => st159 _ (XS.goto X159.here hx rfl (pc0 := 25) (pc' := 43) rfl (hb hby d18_25) (by decide) (by decide) k)) ?_
  show Go p e below s _ _ _ T159 (mkF m 43 #[vr uu2, vr uu7, vi n134, .val cv0] [])
  have f167 := ((Keep.refl h0 [uu7]).trans K159 (allS (Or.inl (List.mem_of_getElem? (i := 0) rfl)) all0))
  have f168 := (Nat.le_trans (Nat.le_refl _) K159.1)
  exact Go.retV X159 hx hlk Bd.returns (hb hby d18_43) e159 ⟨rfl, N159, f167, f166⟩ (by decide) (by decide)

theorem ef_AbstractStringBuilder_putStringAt_0 (m : MethodId) (x0 : Addr) (x1 : Int32) (x2 : Addr) : entryFrame m #[(.ref x0), (.int x1), (.ref x2)] 3 = mkF m 0 #[vr x0, vi x1, vr x2] [] := by first | (simp [entryFrame, mkF, argsToLocals, Value.category]; done) | rfl
def Q_AbstractStringBuilder_putStringAt_0 (Z : State) (b86 : Addr) (n134 : Int32) (uu2 : Addr) (cs : Int32) (uu7 : Addr) (uu6 : Addr) (kb13_41_49_57 : ClassId) (n125 : Int32) (l126 : List Value) (uu8 : ClassId) (l138 : List Value) (h0 : Heap) (n0 : Nat) (v : Option Value) (h : Heap) (L : List Loc) : Prop := v = none ∧ Fr n0 L ∧ Keep h0 h [uu7] ∧ Arv Z h uu7 uu8 .byte ci16 (own_cp l138 (n134 <<< (ci0 &&& 31)) l126 ci0 n125 cv0) cv0
set_option maxRecDepth 65536 in
set_option maxHeartbeats 40000000 in
theorem rm_AbstractStringBuilder_putStringAt_0 (l : Launch) (Z : State) (a0 : Array Value) (hw : ∀ d ∈ tables_1, d.before a0 Z = true) (ws : List Jvm.Cond) (b86 : Addr) (n134 : Int32) (uu2 : Addr) (cs : Int32) (uu7 : Addr) (uu6 : Addr) (kb13_41_49_57 : ClassId) (n125 : Int32) (l126 : List Value) (uu8 : ClassId) (l138 : List Value) (h0 : Heap) (n0 : Nat) (Z0 : n0 ≤ h0.size) (Z_S_COMPACT_STRINGS : Sta Z Z.heap xs25 xs28 "Z" (.int cs)) (O0 : Old Z n0 h0) (hcs : ¬ cs = ci0) (F_coder_b86 : Fld Z h0 b86 xs9 "coder" "B" cv0) (E_b6_57 : Exa Z h0 uu2 xs25) (F_coder_b6_57 : Fld Z h0 uu2 xs25 "coder" "B" cv0) (E_b86 : Exa Z h0 b86 xs13) (F_value_b86 : Fld Z h0 b86 xs9 "value" "[B" (.ref uu7)) (F_value_b6_57 : Fld Z h0 uu2 xs25 "value" "[B" (.ref uu6)) (V_b13_41_49_57 : Arv Z h0 uu6 kb13_41_49_57 .byte n125 l126 cv0) (V_b92_112_119 : Arv Z h0 uu7 uu8 .byte ci16 l138 cv0) (g_b92_112_119 : n0 ≤ uu7) (d_169 : ¬ (n134 <<< (ci0 &&& 31)) < ci0) (d_170 : ¬ n125 < ci0) (d_171 : (ci0).toNatClampNeg + (n125).toNatClampNeg ≤ (n125).toNatClampNeg) (d_172 : ((n134 <<< (ci0 &&& 31))).toNatClampNeg + (n125).toNatClampNeg ≤ (ci16).toNatClampNeg) (d_173 : ((n134 <<< (ci0 &&& 31))).toNatClampNeg + (n125).toNatClampNeg ≤ (l138 : List Value).length) :
    MetFree l xm6 (head1 (Jvm.Cond.code xm6 jdk_68_method_73_code 3 none :: ws) xr17) (fun a U => a = #[(.ref b86), (.int n134), (.ref uu2)] ∧ Z.Warmed39 U.vm ∧ U.heap = h0) (fun _ _ _ _ _ => True) (fun _ U o U' => ∃ v L, o = .returned v ∧ Q_AbstractStringBuilder_putStringAt_0 Z b86 n134 uu2 cs uu7 uu6 kb13_41_49_57 n125 l126 uu8 l138 h0 n0 v U'.heap L ∧ FrameEnd U o U' L xr17.cells xr17.slots) := by
  refine MetFree.of_bodySF (plainFor_of_name pn_5) hisR ?_
  intro p e s m args below meth c s₁ Bd hml0 hP hK
  obtain ⟨rfl, hZ, hh⟩ := hP
  have hx := Bd.exec
  have hby := Bd.bytes
  have hlk : meth.locks = false := BodyLoose.notSynchronized Bd
  have hml : c.maxLocals = 3 := hml0
  have hown : s.vm.findClass xs9 = some m.cls := findClass_of_methodNamed Bd.named
  have hnm := (name_of_methodNamed Bd.named Bd.method).1
  have X0 : Stand p l e xr17 s m #[(.ref b86), (.int n134), (.ref uu2)] below meth c s₁ [] 0 0 := Stand.of_body Bd
  have e0 : s₁.heap = h0 := by rw [← hh, Bd.state]; rfl
  have N0 := Fr.nil n0
  show Go p e below s (Q_AbstractStringBuilder_putStringAt_0 Z b86 n134 uu2 cs uu7 uu6 kb13_41_49_57 n125 l126 uu8 l138 h0 n0) xr17.cells xr17.slots s₁ (entryFrame m #[(.ref b86), (.int n134), (.ref uu2)] 3)
  refine Go.cast (ef_AbstractStringBuilder_putStringAt_0 m b86 n134 uu2) ?_
  show Go p e below s _ _ _ s₁ (mkF m 0 #[vr b86, vi n134, vr uu2] [])
  refine Go.step (fun _ k => XS.aloadN X0.here hx rfl (hb hby d16_0) rfl rfl (XS.aloadN X0.here hx rfl (hb hby d16_1) rfl rfl k)) ?_
  show Go p e below s _ _ _ s₁ (mkF m 2 #[vr b86, vi n134, vr uu2] [(.ref uu2), (.ref b86)])
  obtain ⟨cq150, q150, q150'⟩ := E_b86.cell
  obtain ⟨_, _, ⟨T150, L150, k150, n150⟩, -, X150, ⟨Lc150, hQ150, l150, y150, z150⟩, st150⟩ := X0.privateBack hx (y := xm35) hown (mvT hZ (tw111 hw)) (mvT hZ (tw112 hw)) (own_selQ (mvT hZ (tw114 hw)) (Cond.privateMethod_at (mvP hZ (tw113 hw) (args := #[]))) (mvT hZ (tw112 hw)) (by decide)) (Cond.privateMethod_at (mvP hZ (tw113 hw) (args := #[]))) (mvT hZ (tw115 hw)) (by decide) (backOf (W := 0) (rm_AbstractStringBuilder_inflateIfNeededFor_0 l Z a0 hw [] b86 uu2 cs h0 n0 Z0 Z_S_COMPACT_STRINGS O0 hcs F_coder_b86 E_b6_57 F_coder_b6_57) hZ (tw115 hw) (tw71 hw) (by decide) (by decide)) (g := (mkF m 2 #[vr b86, vi n134, vr uu2] [(.ref uu2), (.ref b86)])) rfl (by rw [hml]; rfl) (Steps.refl _) (a := b86) (by rw [e0]; exact q150) q150' (argsL := [(.ref uu2)]) (rest := []) (lenOf pd_9 rfl) rfl (Nat.le_of_eq rfl) (hb hby d16_2) (fun _ _ => ⟨rfl, e0, (by decide : 0 + 0 ≤ _), (by decide : 0 + 0 ≤ _)⟩)
  dsimp only [Pt.U, Pt.locs, Pt.cells, Pt.slots] at X150 l150 y150 z150 st150 hQ150
  subst l150 y150 z150
  obtain ⟨rfl, N150q, eq150⟩ := hQ150
  have N151 := Fr.app N0 N150q
  refine Go.step (fun _ k => st150.trans (XS.aloadN X150.here hx rfl (hb hby d16_5) rfl rfl (XS.aloadN X150.here hx rfl (hb hby d16_6) rfl rfl k))) ?_
  show Go p e below s _ _ _ T150 (mkF m 7 #[vr b86, vi n134, vr uu2] [(.ref b86), (.ref uu2)])
  obtain ⟨T152, X152, e152, st152⟩ := getF X150 hx hZ hown (host := "") (Or.inl (tw75 hw)) Via.refl eq150 F_value_b86 (g := (mkF m 7 #[vr b86, vi n134, vr uu2] [(.ref b86), (.ref uu2)])) rfl rfl (hb hby d16_7)
  refine Go.step (fun _ k => st152 _ (XS.iloadN X152.here hx rfl (hb hby d16_10) rfl (XS.aloadN X152.here hx rfl (hb hby d16_11) rfl rfl k))) ?_
  show Go p e below s _ _ _ T152 (mkF m 12 #[vr b86, vi n134, vr uu2] [(.ref b86), (.int n134), (.ref uu7), (.ref uu2)])
  obtain ⟨T153, X153, e153, st153⟩ := getF X152 hx hZ hown (host := "") (Or.inl (tw77 hw)) Via.refl e152 F_coder_b86 (g := (mkF m 12 #[vr b86, vi n134, vr uu2] [(.ref b86), (.int n134), (.ref uu7), (.ref uu2)])) rfl rfl (hb hby d16_12)
  refine Go.step (fun _ k => st153 _ k) ?_
  show Go p e below s _ _ _ T153 (mkF m 15 #[vr b86, vi n134, vr uu2] [cv0, (.int n134), (.ref uu7), (.ref uu2)])
  obtain ⟨cq174, kq174, q174a, q174b, q174c⟩ := isOf hZ e153 E_b6_57
  obtain ⟨_, _, ⟨T174, L174, k174, n174⟩, -, X174, ⟨Lc174, hQ174, l174, y174, z174⟩, st174⟩ := X153.virtualBack hx (y := xm5) (z := xm5) hown (mvT hZ (tw117 hw)) (mvT hZ (tw118 hw)) (notFace_of_selects (args := #[]) (mvT hZ (tw120 hw))) (mvT hZ (tw120 hw)) (mvT hZ (tw119 hw)) (by decide) (backOf (W := 0) (rm_String_getBytes_0 l Z a0 hw [] uu2 uu7 n134 cs uu6 kb13_41_49_57 n125 l126 uu8 l138 h0 n0 Z0 E_b6_57 F_coder_b6_57 Z_S_COMPACT_STRINGS O0 hcs F_value_b6_57 V_b13_41_49_57 V_b92_112_119 g_b92_112_119 d_169 d_170 d_171 d_172 d_173) hZ (tw121 hw) (tw6 hw) (by decide) (by decide)) q174a q174c (g := (mkF m 15 #[vr b86, vi n134, vr uu2] [cv0, (.int n134), (.ref uu7), (.ref uu2)])) rfl (by rw [hml]; rfl) (Steps.refl _) (argsL := [(.ref uu7), (.int n134), cv0]) (rest := []) (lenOf pd_10 rfl) rfl (Nat.le_of_eq rfl) (hb hby d16_15) (fun _ _ => ⟨rfl, e153, (by decide : 0 + 0 ≤ _), (by decide : 0 + 0 ≤ _)⟩)
  dsimp only [Pt.U, Pt.locs, Pt.cells, Pt.slots] at X174 l174 y174 z174 st174 hQ174
  subst l174 y174 z174
  obtain ⟨rfl, N174q, K174, P174_0⟩ := hQ174
  have N175 := Fr.app N151 N174q
  refine Go.step (fun _ k => st174.trans k) ?_
  show Go p e below s _ _ _ T174 (mkF m 18 #[vr b86, vi n134, vr uu2] [])
  have f176 := ((Keep.refl h0 [uu7]).trans K174 (allS (Or.inl (List.mem_of_getElem? (i := 0) rfl)) all0))
  have f177 := (Nat.le_trans (Nat.le_refl _) K174.1)
  exact Go.retV X174 hx hlk Bd.returns (hb hby d16_18) rfl ⟨rfl, N175, f176, P174_0⟩ (by decide) (by decide)

theorem ef_AbstractStringBuilder_append_0 (m : MethodId) (x0 : Addr) (x1 : Addr) : entryFrame m #[(.ref x0), (.ref x1)] 3 = mkF m 0 #[vr x0, vr x1, .unset] [] := by first | (simp [entryFrame, mkF, argsToLocals, Value.category]; done) | rfl
def Q_AbstractStringBuilder_append_0 (Z : State) (b86 : Addr) (uu2 : Addr) (uu6 : Addr) (kb13_41_49_57 : ClassId) (n125 : Int32) (l126 : List Value) (cs : Int32) (n134 : Int32) (uu7 : Addr) (uu8 : ClassId) (l138 : List Value) (h0 : Heap) (n0 : Nat) (v : Option Value) (h : Heap) (L : List Loc) : Prop := v = some (.ref b86) ∧ Fr n0 L ∧ Keep h0 h [uu7, b86] ∧ Arv Z h uu7 uu8 .byte ci16 (own_cp l138 (n134 <<< (ci0 &&& 31)) l126 ci0 n125 cv0) cv0 ∧ Fld Z h b86 xs9 "count" "I" (.int (n134 + (n125 >>> (ci0 &&& 31)))) ∧ Fld Z h b86 xs9 "value" "[B" (.ref uu7) ∧ Fld Z h b86 xs9 "coder" "B" cv0
set_option maxRecDepth 65536 in
set_option maxHeartbeats 40000000 in
theorem rm_AbstractStringBuilder_append_0 (l : Launch) (Z : State) (a0 : Array Value) (hw : ∀ d ∈ tables_1, d.before a0 Z = true) (ws : List Jvm.Cond) (b86 : Addr) (uu2 : Addr) (uu6 : Addr) (kb13_41_49_57 : ClassId) (n125 : Int32) (l126 : List Value) (cs : Int32) (n134 : Int32) (uu7 : Addr) (uu8 : ClassId) (l138 : List Value) (h0 : Heap) (n0 : Nat) (Z0 : n0 ≤ h0.size) (E_b6_57 : Exa Z h0 uu2 xs25) (F_value_b6_57 : Fld Z h0 uu2 xs25 "value" "[B" (.ref uu6)) (V_b13_41_49_57 : Arv Z h0 uu6 kb13_41_49_57 .byte n125 l126 cv0) (Z_S_COMPACT_STRINGS : Sta Z Z.heap xs25 xs28 "Z" (.int cs)) (O0 : Old Z n0 h0) (hcs : ¬ cs = ci0) (F_coder_b6_57 : Fld Z h0 uu2 xs25 "coder" "B" cv0) (F_count_b86 : Fld Z h0 b86 xs9 "count" "I" (.int n134)) (F_value_b86 : Fld Z h0 b86 xs9 "value" "[B" (.ref uu7)) (V_b92_112_119 : Arv Z h0 uu7 uu8 .byte ci16 l138 cv0) (F_coder_b86 : Fld Z h0 b86 xs9 "coder" "B" cv0) (d_142 : ¬ ci0 < ((n134 + (n125 >>> (ci0 &&& 31))) - ci16)) (E_b86 : Exa Z h0 b86 xs13) (g_b92_112_119 : n0 ≤ uu7) (d_178 : ¬ (n134 <<< (ci0 &&& 31)) < ci0) (d_179 : ¬ n125 < ci0) (d_180 : (ci0).toNatClampNeg + (n125).toNatClampNeg ≤ (n125).toNatClampNeg) (d_181 : ((n134 <<< (ci0 &&& 31))).toNatClampNeg + (n125).toNatClampNeg ≤ (ci16).toNatClampNeg) (d_182 : ((n134 <<< (ci0 &&& 31))).toNatClampNeg + (n125).toNatClampNeg ≤ (l138 : List Value).length) (ne_b86_b92_112_119 : b86 ≠ uu7) (g_b86 : n0 ≤ b86) :
    MetFree l xm32 (head1 (Jvm.Cond.code xm32 jdk_68_method_22_code 3 (some (.object xs9)) :: ws) xr18) (fun a U => a = #[(.ref b86), (.ref uu2)] ∧ Z.Warmed39 U.vm ∧ U.heap = h0) (fun _ _ _ _ _ => True) (fun _ U o U' => ∃ v L, o = .returned v ∧ Q_AbstractStringBuilder_append_0 Z b86 uu2 uu6 kb13_41_49_57 n125 l126 cs n134 uu7 uu8 l138 h0 n0 v U'.heap L ∧ FrameEnd U o U' L xr18.cells xr18.slots) := by
  refine MetFree.of_bodySF (plainFor_of_name pn_5) hisR ?_
  intro p e s m args below meth c s₁ Bd hml0 hP hK
  obtain ⟨rfl, hZ, hh⟩ := hP
  have hx := Bd.exec
  have hby := Bd.bytes
  have hlk : meth.locks = false := BodyLoose.notSynchronized Bd
  have hml : c.maxLocals = 3 := hml0
  have hown : s.vm.findClass xs9 = some m.cls := findClass_of_methodNamed Bd.named
  have hnm := (name_of_methodNamed Bd.named Bd.method).1
  have X0 : Stand p l e xr18 s m #[(.ref b86), (.ref uu2)] below meth c s₁ [] 0 0 := Stand.of_body Bd
  have e0 : s₁.heap = h0 := by rw [← hh, Bd.state]; rfl
  have N0 := Fr.nil n0
  show Go p e below s (Q_AbstractStringBuilder_append_0 Z b86 uu2 uu6 kb13_41_49_57 n125 l126 cs n134 uu7 uu8 l138 h0 n0) xr18.cells xr18.slots s₁ (entryFrame m #[(.ref b86), (.ref uu2)] 3)
  refine Go.cast (ef_AbstractStringBuilder_append_0 m b86 uu2) ?_
  show Go p e below s _ _ _ s₁ (mkF m 0 #[vr b86, vr uu2, .unset] [])
  refine Go.step (fun _ k => XS.aloadN X0.here hx rfl (hb hby d12_0) rfl rfl (XS.ifnonnullYes X0.here hx rfl (pc0 := 1) (pc' := 9) rfl (hb hby d12_1) rfl (by decide) (by decide) (XS.aloadN X0.here hx rfl (hb hby d12_9) rfl rfl k))) ?_
  show Go p e below s _ _ _ s₁ (mkF m 10 #[vr b86, vr uu2, .unset] [(.ref uu2)])
  obtain ⟨cq132, kq132, q132a, q132b, q132c⟩ := isOf hZ e0 E_b6_57
  obtain ⟨_, _, ⟨T132, L132, k132, n132⟩, -, X132, ⟨Lc132, hQ132, l132, y132, z132⟩, st132⟩ := X0.virtualBack hx (y := xm19) (z := xm19) hown (mvT hZ (tw89 hw)) (mvT hZ (tw90 hw)) (notFace_of_selects (args := #[]) (mvT hZ (tw92 hw))) (mvT hZ (tw92 hw)) (mvT hZ (tw91 hw)) (by decide) (backOf (W := 0) (rm_String_length_0 l Z a0 hw [] uu2 uu6 kb13_41_49_57 n125 l126 cs h0 n0 Z0 F_value_b6_57 V_b13_41_49_57 E_b6_57 Z_S_COMPACT_STRINGS O0 hcs F_coder_b6_57) hZ (tw93 hw) (tw6 hw) (by decide) (by decide)) q132a q132c (g := (mkF m 10 #[vr b86, vr uu2, .unset] [(.ref uu2)])) rfl (by rw [hml]; rfl) (Steps.refl _) (argsL := []) (rest := []) (lenOf pd_8 rfl) rfl (Nat.le_of_eq rfl) (hb hby d12_10) (fun _ _ => ⟨rfl, e0, (by decide : 0 + 0 ≤ _), (by decide : 0 + 0 ≤ _)⟩)
  dsimp only [Pt.U, Pt.locs, Pt.cells, Pt.slots] at X132 l132 y132 z132 st132 hQ132
  subst l132 y132 z132
  obtain ⟨rfl, N132q, eq132⟩ := hQ132
  have N133 := Fr.app N0 N132q
  refine Go.step (fun _ k => st132.trans (XS.istoreN X132.here hx rfl (hb hby d12_13) rfl (l' := #[vr b86, vr uu2, .val (.int (n125 >>> (ci0 &&& 31)))]) rfl (XS.aloadN X132.here hx rfl (hb hby d12_14) rfl rfl (XS.aloadN X132.here hx rfl (hb hby d12_15) rfl rfl k)))) ?_
  show Go p e below s _ _ _ T132 (mkF m 16 #[vr b86, vr uu2, .val (.int (n125 >>> (ci0 &&& 31)))] [(.ref b86), (.ref b86)])
  obtain ⟨T135, X135, e135, st135⟩ := getF X132 hx hZ hown (host := "") (Or.inl (tw99 hw)) Via.refl eq132 F_count_b86 (g := (mkF m 16 #[vr b86, vr uu2, .val (.int (n125 >>> (ci0 &&& 31)))] [(.ref b86), (.ref b86)])) rfl rfl (hb hby d12_16)
  refine Go.step (fun _ k => st135 _ (XS.iloadN X135.here hx rfl (hb hby d12_19) rfl (XS.iadd X135.here hx rfl (hb hby d12_20) rfl k))) ?_
  show Go p e below s _ _ _ T135 (mkF m 21 #[vr b86, vr uu2, .val (.int (n125 >>> (ci0 &&& 31)))] [(.int (n134 + (n125 >>> (ci0 &&& 31)))), (.ref b86)])
  obtain ⟨cq143, q143, q143'⟩ := E_b86.cell
  obtain ⟨_, _, ⟨T143, L143, k143, n143⟩, -, X143, ⟨Lc143, hQ143, l143, y143, z143⟩, st143⟩ := X135.privateBack hx (y := xm34) hown (mvT hZ (tw101 hw)) (mvT hZ (tw102 hw)) (own_selQ (mvT hZ (tw104 hw)) (Cond.privateMethod_at (mvP hZ (tw103 hw) (args := #[]))) (mvT hZ (tw102 hw)) (by decide)) (Cond.privateMethod_at (mvP hZ (tw103 hw) (args := #[]))) (mvT hZ (tw105 hw)) (by decide) (backOf (W := 0) (rm_AbstractStringBuilder_ensureCapacityInternal_0 l Z a0 hw [] b86 (n134 + (n125 >>> (ci0 &&& 31))) uu7 uu8 l138 h0 n0 Z0 F_value_b86 V_b92_112_119 F_coder_b86 d_142) hZ (tw105 hw) (tw71 hw) (by decide) (by decide)) (g := (mkF m 21 #[vr b86, vr uu2, .val (.int (n125 >>> (ci0 &&& 31)))] [(.int (n134 + (n125 >>> (ci0 &&& 31)))), (.ref b86)])) rfl (by rw [hml]; rfl) (Steps.refl _) (a := b86) (by rw [e135]; exact q143) q143' (argsL := [(.int (n134 + (n125 >>> (ci0 &&& 31))))]) (rest := []) (lenOf pd_6 rfl) rfl (Nat.le_of_eq rfl) (hb hby d12_21) (fun _ _ => ⟨rfl, e135, (by decide : 0 + 0 ≤ _), (by decide : 0 + 0 ≤ _)⟩)
  dsimp only [Pt.U, Pt.locs, Pt.cells, Pt.slots] at X143 l143 y143 z143 st143 hQ143
  subst l143 y143 z143
  obtain ⟨rfl, N143q, eq143⟩ := hQ143
  have N144 := Fr.app N133 N143q
  refine Go.step (fun _ k => st143.trans (XS.aloadN X143.here hx rfl (hb hby d12_24) rfl rfl (XS.aloadN X143.here hx rfl (hb hby d12_25) rfl rfl k))) ?_
  show Go p e below s _ _ _ T143 (mkF m 26 #[vr b86, vr uu2, .val (.int (n125 >>> (ci0 &&& 31)))] [(.ref b86), (.ref b86)])
  obtain ⟨T145, X145, e145, st145⟩ := getF X143 hx hZ hown (host := "") (Or.inl (tw99 hw)) Via.refl eq143 F_count_b86 (g := (mkF m 26 #[vr b86, vr uu2, .val (.int (n125 >>> (ci0 &&& 31)))] [(.ref b86), (.ref b86)])) rfl rfl (hb hby d12_26)
  refine Go.step (fun _ k => st145 _ (XS.aloadN X145.here hx rfl (hb hby d12_29) rfl rfl k)) ?_
  show Go p e below s _ _ _ T145 (mkF m 30 #[vr b86, vr uu2, .val (.int (n125 >>> (ci0 &&& 31)))] [(.ref uu2), (.int n134), (.ref b86)])
  obtain ⟨cq183, q183, q183'⟩ := E_b86.cell
  obtain ⟨_, _, ⟨T183, L183, k183, n183⟩, -, X183, ⟨Lc183, hQ183, l183, y183, z183⟩, st183⟩ := X145.privateBack hx (y := xm6) hown (mvT hZ (tw106 hw)) (mvT hZ (tw107 hw)) (own_selQ (mvT hZ (tw109 hw)) (Cond.privateMethod_at (mvP hZ (tw108 hw) (args := #[]))) (mvT hZ (tw107 hw)) (by decide)) (Cond.privateMethod_at (mvP hZ (tw108 hw) (args := #[]))) (mvT hZ (tw110 hw)) (by decide) (backOf (W := 0) (rm_AbstractStringBuilder_putStringAt_0 l Z a0 hw [] b86 n134 uu2 cs uu7 uu6 kb13_41_49_57 n125 l126 uu8 l138 h0 n0 Z0 Z_S_COMPACT_STRINGS O0 hcs F_coder_b86 E_b6_57 F_coder_b6_57 E_b86 F_value_b86 F_value_b6_57 V_b13_41_49_57 V_b92_112_119 g_b92_112_119 d_178 d_179 d_180 d_181 d_182) hZ (tw110 hw) (tw71 hw) (by decide) (by decide)) (g := (mkF m 30 #[vr b86, vr uu2, .val (.int (n125 >>> (ci0 &&& 31)))] [(.ref uu2), (.int n134), (.ref b86)])) rfl (by rw [hml]; rfl) (Steps.refl _) (a := b86) (by rw [e145]; exact q183) q183' (argsL := [(.int n134), (.ref uu2)]) (rest := []) (lenOf pd_11 rfl) rfl (Nat.le_of_eq rfl) (hb hby d12_30) (fun _ _ => ⟨rfl, e145, (by decide : 0 + 0 ≤ _), (by decide : 0 + 0 ≤ _)⟩)
  dsimp only [Pt.U, Pt.locs, Pt.cells, Pt.slots] at X183 l183 y183 z183 st183 hQ183
  subst l183 y183 z183
  obtain ⟨rfl, N183q, K183, P183_0⟩ := hQ183
  have N184 := Fr.app N144 N183q
  refine Go.step (fun _ k => st183.trans (XS.aloadN X183.here hx rfl (hb hby d12_33) rfl rfl (XS.dup X183.here hx rfl (hb hby d12_34) rfl rfl k))) ?_
  show Go p e below s _ _ _ T183 (mkF m 35 #[vr b86, vr uu2, .val (.int (n125 >>> (ci0 &&& 31)))] [(.ref b86), (.ref b86)])
  have f186 := (F_count_b86.keep K183 (ninS ne_b86_b92_112_119 nin0))
  obtain ⟨T187, X187, e187, st187⟩ := getF X183 hx hZ hown (host := "") (Or.inl (tw99 hw)) Via.refl rfl f186 (g := (mkF m 35 #[vr b86, vr uu2, .val (.int (n125 >>> (ci0 &&& 31)))] [(.ref b86), (.ref b86)])) rfl rfl (hb hby d12_35)
  refine Go.step (fun _ k => st187 _ (XS.iloadN X187.here hx rfl (hb hby d12_38) rfl (XS.iadd X187.here hx rfl (hb hby d12_39) rfl k))) ?_
  show Go p e below s _ _ _ T187 (mkF m 40 #[vr b86, vr uu2, .val (.int (n125 >>> (ci0 &&& 31)))] [(.int (n134 + (n125 >>> (ci0 &&& 31)))), (.ref b86)])
  have f188 := (E_b86.keep K183)
  obtain ⟨T189, h189, X189, e189, W189, st189⟩ := putF X187 hx hZ hown (host := "") (Or.inl (tw99 hw)) Via.refl e187 f186 f188 (Or.inl (tw100 hw)) (tw62 hw) (ty := .int) (by decide) rfl rfl (g := (mkF m 40 #[vr b86, vr uu2, .val (.int (n125 >>> (ci0 &&& 31)))] [(.int (n134 + (n125 >>> (ci0 &&& 31)))), (.ref b86)])) rfl rfl (hb hby d12_40)
  have f190 := f186.same W189
  have N191 := Fr.snoc X189 N184 g_b86
  refine Go.step (fun _ k => st189 _ (XS.aloadN X189.here hx rfl (hb hby d12_43) rfl rfl k)) ?_
  show Go p e below s _ _ _ T189 (mkF m 44 #[vr b86, vr uu2, .val (.int (n125 >>> (ci0 &&& 31)))] [(.ref b86)])
  have f192 := (((Keep.refl h0 [uu7, b86]).trans K183 (allS (Or.inl (List.mem_of_getElem? (i := 0) rfl)) all0)).wr W189 (Or.inl (List.mem_of_getElem? (i := 1) rfl)))
  have f193 := (P183_0.other W189 (Ne.symm ne_b86_b92_112_119))
  have f194 := ((F_value_b86.keep K183 (ninS ne_b86_b92_112_119 nin0)).other W189 (Or.inr (slot_ne (Or.inl (tw76 hw)) (Or.inl (tw100 hw)) (by decide) (t := (.array .byte)) (t' := .int) (by decide) (by decide))))
  have f195 := ((F_coder_b86.keep K183 (ninS ne_b86_b92_112_119 nin0)).other W189 (Or.inr (slot_ne (Or.inl (tw78 hw)) (Or.inl (tw100 hw)) (by decide) (t := .byte) (t' := .int) (by decide) (by decide))))
  have f196 := (Nat.le_trans (Nat.le_trans (Nat.le_refl _) K183.1) (Keep.of_wr W189).1)
  exact Go.retA X189 hx hlk Bd.returns rfl rfl (hb hby d12_44) e189 ⟨rfl, N191, f192, f193, f190, f194, f195⟩ (by decide) (by decide)

theorem ef_StringBuilder_append_0 (m : MethodId) (x0 : Addr) (x1 : Addr) : entryFrame m #[(.ref x0), (.ref x1)] 2 = mkF m 0 #[vr x0, vr x1] [] := by first | (simp [entryFrame, mkF, argsToLocals, Value.category]; done) | rfl
def Q_StringBuilder_append_0 (Z : State) (b86 : Addr) (uu2 : Addr) (uu6 : Addr) (kb13_41_49_57 : ClassId) (n125 : Int32) (l126 : List Value) (cs : Int32) (n134 : Int32) (uu7 : Addr) (uu8 : ClassId) (l138 : List Value) (h0 : Heap) (n0 : Nat) (v : Option Value) (h : Heap) (L : List Loc) : Prop := v = some (.ref b86) ∧ Fr n0 L ∧ Keep h0 h [uu7, b86] ∧ Arv Z h uu7 uu8 .byte ci16 (own_cp l138 (n134 <<< (ci0 &&& 31)) l126 ci0 n125 cv0) cv0 ∧ Fld Z h b86 xs9 "count" "I" (.int (n134 + (n125 >>> (ci0 &&& 31)))) ∧ Fld Z h b86 xs9 "value" "[B" (.ref uu7) ∧ Fld Z h b86 xs9 "coder" "B" cv0
set_option maxRecDepth 65536 in
set_option maxHeartbeats 40000000 in
theorem rm_StringBuilder_append_0 (l : Launch) (Z : State) (a0 : Array Value) (hw : ∀ d ∈ tables_1, d.before a0 Z = true) (ws : List Jvm.Cond) (b86 : Addr) (uu2 : Addr) (uu6 : Addr) (kb13_41_49_57 : ClassId) (n125 : Int32) (l126 : List Value) (cs : Int32) (n134 : Int32) (uu7 : Addr) (uu8 : ClassId) (l138 : List Value) (h0 : Heap) (n0 : Nat) (Z0 : n0 ≤ h0.size) (E_b6_57 : Exa Z h0 uu2 xs25) (F_value_b6_57 : Fld Z h0 uu2 xs25 "value" "[B" (.ref uu6)) (V_b13_41_49_57 : Arv Z h0 uu6 kb13_41_49_57 .byte n125 l126 cv0) (Z_S_COMPACT_STRINGS : Sta Z Z.heap xs25 xs28 "Z" (.int cs)) (O0 : Old Z n0 h0) (hcs : ¬ cs = ci0) (F_coder_b6_57 : Fld Z h0 uu2 xs25 "coder" "B" cv0) (F_count_b86 : Fld Z h0 b86 xs9 "count" "I" (.int n134)) (F_value_b86 : Fld Z h0 b86 xs9 "value" "[B" (.ref uu7)) (V_b92_112_119 : Arv Z h0 uu7 uu8 .byte ci16 l138 cv0) (F_coder_b86 : Fld Z h0 b86 xs9 "coder" "B" cv0) (E_b86 : Exa Z h0 b86 xs13) (g_b92_112_119 : n0 ≤ uu7) (ne_b86_b92_112_119 : b86 ≠ uu7) (g_b86 : n0 ≤ b86) (d_197 : ¬ ci0 < ((n134 + (n125 >>> (ci0 &&& 31))) - ci16)) (d_198 : ¬ (n134 <<< (ci0 &&& 31)) < ci0) (d_199 : ¬ n125 < ci0) (d_200 : (ci0).toNatClampNeg + (n125).toNatClampNeg ≤ (n125).toNatClampNeg) (d_201 : ((n134 <<< (ci0 &&& 31))).toNatClampNeg + (n125).toNatClampNeg ≤ (ci16).toNatClampNeg) (d_202 : ((n134 <<< (ci0 &&& 31))).toNatClampNeg + (n125).toNatClampNeg ≤ (l138 : List Value).length) :
    MetFree l xm28 (head1 (Jvm.Cond.code xm28 jdk_67_method_7_code 2 (some (.object xs13)) :: ws) xr19) (fun a U => a = #[(.ref b86), (.ref uu2)] ∧ Z.Warmed39 U.vm ∧ U.heap = h0) (fun _ _ _ _ _ => True) (fun _ U o U' => ∃ v L, o = .returned v ∧ Q_StringBuilder_append_0 Z b86 uu2 uu6 kb13_41_49_57 n125 l126 cs n134 uu7 uu8 l138 h0 n0 v U'.heap L ∧ FrameEnd U o U' L xr19.cells xr19.slots) := by
  refine MetFree.of_bodySF (plainFor_of_name pn_6) hisR ?_
  intro p e s m args below meth c s₁ Bd hml0 hP hK
  obtain ⟨rfl, hZ, hh⟩ := hP
  have hx := Bd.exec
  have hby := Bd.bytes
  have hlk : meth.locks = false := BodyLoose.notSynchronized Bd
  have hml : c.maxLocals = 2 := hml0
  have hown : s.vm.findClass xs13 = some m.cls := findClass_of_methodNamed Bd.named
  have hnm := (name_of_methodNamed Bd.named Bd.method).1
  have X0 : Stand p l e xr19 s m #[(.ref b86), (.ref uu2)] below meth c s₁ [] 0 0 := Stand.of_body Bd
  have e0 : s₁.heap = h0 := by rw [← hh, Bd.state]; rfl
  have N0 := Fr.nil n0
  show Go p e below s (Q_StringBuilder_append_0 Z b86 uu2 uu6 kb13_41_49_57 n125 l126 cs n134 uu7 uu8 l138 h0 n0) xr19.cells xr19.slots s₁ (entryFrame m #[(.ref b86), (.ref uu2)] 2)
  refine Go.cast (ef_StringBuilder_append_0 m b86 uu2) ?_
  show Go p e below s _ _ _ s₁ (mkF m 0 #[vr b86, vr uu2] [])
  refine Go.step (fun _ k => XS.aloadN X0.here hx rfl (hb hby d11_0) rfl rfl (XS.aloadN X0.here hx rfl (hb hby d11_1) rfl rfl k)) ?_
  show Go p e below s _ _ _ s₁ (mkF m 2 #[vr b86, vr uu2] [(.ref uu2), (.ref b86)])
  obtain ⟨_, _, ⟨T203, L203, k203, n203⟩, -, X203, ⟨Lc203, hQ203, l203, y203, z203⟩, st203⟩ := superBack X0 hx hZ (y := xm32) hown (tw84 hw) (own_same (tw85 hw) (tw104 hw) rfl (by decide)) (tw85 hw) (tw86 hw) (by decide) (backOf (W := 0) (rm_AbstractStringBuilder_append_0 l Z a0 hw [] b86 uu2 uu6 kb13_41_49_57 n125 l126 cs n134 uu7 uu8 l138 h0 n0 Z0 E_b6_57 F_value_b6_57 V_b13_41_49_57 Z_S_COMPACT_STRINGS O0 hcs F_coder_b6_57 F_count_b86 F_value_b86 V_b92_112_119 F_coder_b86 d_197 E_b86 g_b92_112_119 d_198 d_199 d_200 d_201 d_202 ne_b86_b92_112_119 g_b86) hZ (tw88 hw) (tw71 hw) (by decide) (by decide)) e0 (Ins.self E_b86) (g := (mkF m 2 #[vr b86, vr uu2] [(.ref uu2), (.ref b86)])) rfl (by rw [hml]; rfl) (tw88 hw) (argsL := [(.ref uu2)]) (rest := []) (lenOf pd_12 rfl) rfl (Nat.le_of_eq rfl) (hb hby d11_2) (fun _ _ => ⟨rfl, e0, (by decide : 0 + 0 ≤ _), (by decide : 0 + 0 ≤ _)⟩)
  dsimp only [Pt.U, Pt.locs, Pt.cells, Pt.slots] at X203 l203 y203 z203 st203 hQ203
  subst l203 y203 z203
  obtain ⟨rfl, N203q, K203, P203_0, P203_1, P203_2, P203_3⟩ := hQ203
  have N204 := Fr.app N0 N203q
  refine Go.step (fun _ k => st203.trans (XS.pop X203.here hx rfl (hb hby d11_5) rfl rfl (XS.aloadN X203.here hx rfl (hb hby d11_6) rfl rfl k))) ?_
  show Go p e below s _ _ _ T203 (mkF m 7 #[vr b86, vr uu2] [(.ref b86)])
  have f205 := ((Keep.refl h0 [uu7, b86]).trans K203 (allS (Or.inl (List.mem_of_getElem? (i := 0) rfl)) (allS (Or.inl (List.mem_of_getElem? (i := 1) rfl)) all0)))
  have f206 := (Nat.le_trans (Nat.le_refl _) K203.1)
  exact Go.retA X203 hx hlk Bd.returns rfl rfl (hb hby d11_7) rfl ⟨rfl, N204, f205, P203_0, P203_1, P203_2, P203_3⟩ (by decide) (by decide)

theorem ef_AbstractStringBuilder_getValue_0 (m : MethodId) (x0 : Addr) : entryFrame m #[(.ref x0)] 1 = mkF m 0 #[vr x0] [] := by first | (simp [entryFrame, mkF, argsToLocals, Value.category]; done) | rfl
def Q_AbstractStringBuilder_getValue_0 (Z : State) (b86 : Addr) (uu7 : Addr) (h0 : Heap) (n0 : Nat) (v : Option Value) (h : Heap) (L : List Loc) : Prop := v = some (.ref uu7) ∧ Fr n0 L ∧ h = h0
set_option maxRecDepth 65536 in
set_option maxHeartbeats 40000000 in
theorem rm_AbstractStringBuilder_getValue_0 (l : Launch) (Z : State) (a0 : Array Value) (hw : ∀ d ∈ tables_1, d.before a0 Z = true) (ws : List Jvm.Cond) (b86 : Addr) (uu7 : Addr) (h0 : Heap) (n0 : Nat) (Z0 : n0 ≤ h0.size) (F_value_b86 : Fld Z h0 b86 xs9 "value" "[B" (.ref uu7)) :
    MetFree l xm9 (head1 (Jvm.Cond.code xm9 jdk_68_method_64_code 1 (some (.array .byte)) :: ws) xr34) (fun a U => a = #[(.ref b86)] ∧ Z.Warmed39 U.vm ∧ U.heap = h0) (fun _ _ _ _ _ => True) (fun _ U o U' => ∃ v L, o = .returned v ∧ Q_AbstractStringBuilder_getValue_0 Z b86 uu7 h0 n0 v U'.heap L ∧ FrameEnd U o U' L xr34.cells xr34.slots) := by
  refine MetFree.of_bodySF (plainFor_of_name pn_5) hisR ?_
  intro p e s m args below meth c s₁ Bd hml0 hP hK
  obtain ⟨rfl, hZ, hh⟩ := hP
  have hx := Bd.exec
  have hby := Bd.bytes
  have hlk : meth.locks = false := BodyLoose.notSynchronized Bd
  have hml : c.maxLocals = 1 := hml0
  have hown : s.vm.findClass xs9 = some m.cls := findClass_of_methodNamed Bd.named
  have hnm := (name_of_methodNamed Bd.named Bd.method).1
  have X0 : Stand p l e xr34 s m #[(.ref b86)] below meth c s₁ [] 0 0 := Stand.of_body Bd
  have e0 : s₁.heap = h0 := by rw [← hh, Bd.state]; rfl
  have N0 := Fr.nil n0
  show Go p e below s (Q_AbstractStringBuilder_getValue_0 Z b86 uu7 h0 n0) xr34.cells xr34.slots s₁ (entryFrame m #[(.ref b86)] 1)
  refine Go.cast (ef_AbstractStringBuilder_getValue_0 m b86) ?_
  show Go p e below s _ _ _ s₁ (mkF m 0 #[vr b86] [])
  refine Go.step (fun _ k => XS.aloadN X0.here hx rfl (hb hby d22_0) rfl rfl k) ?_
  show Go p e below s _ _ _ s₁ (mkF m 1 #[vr b86] [(.ref b86)])
  obtain ⟨T271, X271, e271, st271⟩ := getF X0 hx hZ hown (host := "") (Or.inl (tw75 hw)) Via.refl e0 F_value_b86 (g := (mkF m 1 #[vr b86] [(.ref b86)])) rfl rfl (hb hby d22_1)
  refine Go.step (fun _ k => st271 _ k) ?_
  show Go p e below s _ _ _ T271 (mkF m 4 #[vr b86] [(.ref uu7)])
  exact Go.retA X271 hx hlk Bd.returns rfl rfl (hb hby d22_4) e271 ⟨rfl, N0, rfl⟩ (by decide) (by decide)

theorem ef_AbstractStringBuilder_length_0 (m : MethodId) (x0 : Addr) : entryFrame m #[(.ref x0)] 1 = mkF m 0 #[vr x0] [] := by first | (simp [entryFrame, mkF, argsToLocals, Value.category]; done) | rfl
def Q_AbstractStringBuilder_length_0 (Z : State) (b86 : Addr) (n274 : Int32) (h0 : Heap) (n0 : Nat) (v : Option Value) (h : Heap) (L : List Loc) : Prop := v = some (.int n274) ∧ Fr n0 L ∧ h = h0
set_option maxRecDepth 65536 in
set_option maxHeartbeats 40000000 in
theorem rm_AbstractStringBuilder_length_0 (l : Launch) (Z : State) (a0 : Array Value) (hw : ∀ d ∈ tables_1, d.before a0 Z = true) (ws : List Jvm.Cond) (b86 : Addr) (n274 : Int32) (h0 : Heap) (n0 : Nat) (Z0 : n0 ≤ h0.size) (F_count_b86 : Fld Z h0 b86 xs9 "count" "I" (.int n274)) :
    MetFree l xm24 (head1 (Jvm.Cond.code xm24 jdk_68_method_6_code 1 (some .int) :: ws) xr34) (fun a U => a = #[(.ref b86)] ∧ Z.Warmed39 U.vm ∧ U.heap = h0) (fun _ _ _ _ _ => True) (fun _ U o U' => ∃ v L, o = .returned v ∧ Q_AbstractStringBuilder_length_0 Z b86 n274 h0 n0 v U'.heap L ∧ FrameEnd U o U' L xr34.cells xr34.slots) := by
  refine MetFree.of_bodySF (plainFor_of_name pn_5) hisR ?_
  intro p e s m args below meth c s₁ Bd hml0 hP hK
  obtain ⟨rfl, hZ, hh⟩ := hP
  have hx := Bd.exec
  have hby := Bd.bytes
  have hlk : meth.locks = false := BodyLoose.notSynchronized Bd
  have hml : c.maxLocals = 1 := hml0
  have hown : s.vm.findClass xs9 = some m.cls := findClass_of_methodNamed Bd.named
  have hnm := (name_of_methodNamed Bd.named Bd.method).1
  have X0 : Stand p l e xr34 s m #[(.ref b86)] below meth c s₁ [] 0 0 := Stand.of_body Bd
  have e0 : s₁.heap = h0 := by rw [← hh, Bd.state]; rfl
  have N0 := Fr.nil n0
  show Go p e below s (Q_AbstractStringBuilder_length_0 Z b86 n274 h0 n0) xr34.cells xr34.slots s₁ (entryFrame m #[(.ref b86)] 1)
  refine Go.cast (ef_AbstractStringBuilder_length_0 m b86) ?_
  show Go p e below s _ _ _ s₁ (mkF m 0 #[vr b86] [])
  refine Go.step (fun _ k => XS.aloadN X0.here hx rfl (hb hby d24_0) rfl rfl k) ?_
  show Go p e below s _ _ _ s₁ (mkF m 1 #[vr b86] [(.ref b86)])
  obtain ⟨T275, X275, e275, st275⟩ := getF X0 hx hZ hown (host := "") (Or.inl (tw99 hw)) Via.refl e0 F_count_b86 (g := (mkF m 1 #[vr b86] [(.ref b86)])) rfl rfl (hb hby d24_1)
  refine Go.step (fun _ k => st275 _ k) ?_
  show Go p e below s _ _ _ T275 (mkF m 4 #[vr b86] [(.int n274)])
  exact Go.retI X275 hx hlk Bd.returns (hb hby d24_4) e275 ⟨rfl, N0, rfl⟩ (by decide) (by decide)

theorem ef_StringBuilder_length_0 (m : MethodId) (x0 : Addr) : entryFrame m #[(.ref x0)] 1 = mkF m 0 #[vr x0] [] := by first | (simp [entryFrame, mkF, argsToLocals, Value.category]; done) | rfl
def Q_StringBuilder_length_0 (Z : State) (b86 : Addr) (n274 : Int32) (h0 : Heap) (n0 : Nat) (v : Option Value) (h : Heap) (L : List Loc) : Prop := v = some (.int n274) ∧ Fr n0 L ∧ h = h0
set_option maxRecDepth 65536 in
set_option maxHeartbeats 40000000 in
theorem rm_StringBuilder_length_0 (l : Launch) (Z : State) (a0 : Array Value) (hw : ∀ d ∈ tables_1, d.before a0 Z = true) (ws : List Jvm.Cond) (b86 : Addr) (n274 : Int32) (h0 : Heap) (n0 : Nat) (Z0 : n0 ≤ h0.size) (F_count_b86 : Fld Z h0 b86 xs9 "count" "I" (.int n274)) (E_b86 : Exa Z h0 b86 xs13) :
    MetFree l xm20 (head1 (Jvm.Cond.code xm20 jdk_67_method_93_code 1 (some .int) :: ws) xr13) (fun a U => a = #[(.ref b86)] ∧ Z.Warmed39 U.vm ∧ U.heap = h0) (fun _ _ _ _ _ => True) (fun _ U o U' => ∃ v L, o = .returned v ∧ Q_StringBuilder_length_0 Z b86 n274 h0 n0 v U'.heap L ∧ FrameEnd U o U' L xr13.cells xr13.slots) := by
  refine MetFree.of_bodySF (plainFor_of_name pn_6) hisR ?_
  intro p e s m args below meth c s₁ Bd hml0 hP hK
  obtain ⟨rfl, hZ, hh⟩ := hP
  have hx := Bd.exec
  have hby := Bd.bytes
  have hlk : meth.locks = false := BodyLoose.notSynchronized Bd
  have hml : c.maxLocals = 1 := hml0
  have hown : s.vm.findClass xs13 = some m.cls := findClass_of_methodNamed Bd.named
  have hnm := (name_of_methodNamed Bd.named Bd.method).1
  have X0 : Stand p l e xr13 s m #[(.ref b86)] below meth c s₁ [] 0 0 := Stand.of_body Bd
  have e0 : s₁.heap = h0 := by rw [← hh, Bd.state]; rfl
  have N0 := Fr.nil n0
  show Go p e below s (Q_StringBuilder_length_0 Z b86 n274 h0 n0) xr13.cells xr13.slots s₁ (entryFrame m #[(.ref b86)] 1)
  refine Go.cast (ef_StringBuilder_length_0 m b86) ?_
  show Go p e below s _ _ _ s₁ (mkF m 0 #[vr b86] [])
  refine Go.step (fun _ k => XS.aloadN X0.here hx rfl (hb hby d23_0) rfl rfl k) ?_
  show Go p e below s _ _ _ s₁ (mkF m 1 #[vr b86] [(.ref b86)])
  obtain ⟨_, _, ⟨T276, L276, k276, n276⟩, -, X276, ⟨Lc276, hQ276, l276, y276, z276⟩, st276⟩ := superBack X0 hx hZ (y := xm24) hown (tw150 hw) (own_same (tw146 hw) (tw104 hw) rfl (by decide)) (tw146 hw) (tw86 hw) (by decide) (backOf (W := 0) (rm_AbstractStringBuilder_length_0 l Z a0 hw [] b86 n274 h0 n0 Z0 F_count_b86) hZ (tw151 hw) (tw71 hw) (by decide) (by decide)) e0 (Ins.self E_b86) (g := (mkF m 1 #[vr b86] [(.ref b86)])) rfl (by rw [hml]; rfl) (tw151 hw) (argsL := []) (rest := []) (lenOf pd_8 rfl) rfl (Nat.le_of_eq rfl) (hb hby d23_1) (fun _ _ => ⟨rfl, e0, (by decide : 0 + 0 ≤ _), (by decide : 0 + 0 ≤ _)⟩)
  dsimp only [Pt.U, Pt.locs, Pt.cells, Pt.slots] at X276 l276 y276 z276 st276 hQ276
  subst l276 y276 z276
  obtain ⟨rfl, N276q, eq276⟩ := hQ276
  have N277 := Fr.app N0 N276q
  refine Go.step (fun _ k => st276.trans k) ?_
  show Go p e below s _ _ _ T276 (mkF m 4 #[vr b86] [(.int n274)])
  exact Go.retI X276 hx hlk Bd.returns (hb hby d23_4) eq276 ⟨rfl, N277, rfl⟩ (by decide) (by decide)

theorem ef_AbstractStringBuilder_isLatin1_0 (m : MethodId) (x0 : Addr) : entryFrame m #[(.ref x0)] 1 = mkF m 0 #[vr x0] [] := by first | (simp [entryFrame, mkF, argsToLocals, Value.category]; done) | rfl
def Q_AbstractStringBuilder_isLatin1_0 (Z : State) (b86 : Addr) (cs : Int32) (h0 : Heap) (n0 : Nat) (v : Option Value) (h : Heap) (L : List Loc) : Prop := v = some cv1 ∧ Fr n0 L ∧ h = h0
set_option maxRecDepth 65536 in
set_option maxHeartbeats 40000000 in
theorem rm_AbstractStringBuilder_isLatin1_0 (l : Launch) (Z : State) (a0 : Array Value) (hw : ∀ d ∈ tables_1, d.before a0 Z = true) (ws : List Jvm.Cond) (b86 : Addr) (cs : Int32) (h0 : Heap) (n0 : Nat) (Z0 : n0 ≤ h0.size) (Z_S_COMPACT_STRINGS : Sta Z Z.heap xs25 xs28 "Z" (.int cs)) (O0 : Old Z n0 h0) (hcs : ¬ cs = ci0) (F_coder_b86 : Fld Z h0 b86 xs9 "coder" "B" cv0) :
    MetFree l xm12 (head1 (Jvm.Cond.code xm12 jdk_68_method_68_code 1 (some .boolean) :: ws) xr34) (fun a U => a = #[(.ref b86)] ∧ Z.Warmed39 U.vm ∧ U.heap = h0) (fun _ _ _ _ _ => True) (fun _ U o U' => ∃ v L, o = .returned v ∧ Q_AbstractStringBuilder_isLatin1_0 Z b86 cs h0 n0 v U'.heap L ∧ FrameEnd U o U' L xr34.cells xr34.slots) := by
  refine MetFree.of_bodySF (plainFor_of_name pn_5) hisR ?_
  intro p e s m args below meth c s₁ Bd hml0 hP hK
  obtain ⟨rfl, hZ, hh⟩ := hP
  have hx := Bd.exec
  have hby := Bd.bytes
  have hlk : meth.locks = false := BodyLoose.notSynchronized Bd
  have hml : c.maxLocals = 1 := hml0
  have hown : s.vm.findClass xs9 = some m.cls := findClass_of_methodNamed Bd.named
  have hnm := (name_of_methodNamed Bd.named Bd.method).1
  have X0 : Stand p l e xr34 s m #[(.ref b86)] below meth c s₁ [] 0 0 := Stand.of_body Bd
  have e0 : s₁.heap = h0 := by rw [← hh, Bd.state]; rfl
  have N0 := Fr.nil n0
  show Go p e below s (Q_AbstractStringBuilder_isLatin1_0 Z b86 cs h0 n0) xr34.cells xr34.slots s₁ (entryFrame m #[(.ref b86)] 1)
  refine Go.cast (ef_AbstractStringBuilder_isLatin1_0 m b86) ?_
  show Go p e below s _ _ _ s₁ (mkF m 0 #[vr b86] [])
  obtain ⟨T280, X280, e280, st280⟩ := getS2 X0 hx hZ hown (host := "") (Or.inl (tw74 hw)) Via.refl e0 (Z_S_COMPACT_STRINGS.ext O0.2) (g := (mkF m 0 #[vr b86] [])) rfl (hb hby d25_0)
  refine Go.step (fun _ k => st280 _ (XS.ifNo X280.here hx rfl (hb hby d25_3) rfl ((if0 _ _).trans (feq hcs).1) (XS.aloadN X280.here hx rfl (hb hby d25_6) rfl rfl k))) ?_
  show Go p e below s _ _ _ T280 (mkF m 7 #[vr b86] [(.ref b86)])
  obtain ⟨T281, X281, e281, st281⟩ := getF X280 hx hZ hown (host := "") (Or.inl (tw77 hw)) Via.refl e280 F_coder_b86 (g := (mkF m 7 #[vr b86] [(.ref b86)])) rfl rfl (hb hby d25_7)
  refine Go.step (fun _ k => st281 _ (XS.ifNo X281.here hx rfl (hb hby d25_10) rfl ((if0 _ _).trans (teq (by decide)).2) (XS.iconst X281.here hx rfl (hb hby d25_13) (XS.goto X281.here hx rfl (pc0 := 14) (pc' := 18) rfl (hb hby d25_14) (by decide) (by decide) k)))) ?_
  show Go p e below s _ _ _ T281 (mkF m 18 #[vr b86] [cv1])
  exact Go.retN X281 hx hlk (t := .boolean) Bd.returns (by simp) (hb hby d25_18) e281 ⟨rfl, N0, rfl⟩ (by decide) (by decide)

theorem ef_Arrays_checkLength_0 (m : MethodId) (x0 : Int32) (x1 : Int32) : entryFrame m #[(.int x0), (.int x1)] 2 = mkF m 0 #[vi x0, vi x1] [] := by first | (simp [entryFrame, mkF, argsToLocals, Value.category]; done) | rfl
def Q_Arrays_checkLength_0 (Z : State) (n274 : Int32) (h0 : Heap) (n0 : Nat) (v : Option Value) (h : Heap) (L : List Loc) : Prop := v = none ∧ Fr n0 L ∧ h = h0
set_option maxRecDepth 65536 in
set_option maxHeartbeats 40000000 in
theorem rm_Arrays_checkLength_0 (l : Launch) (Z : State) (a0 : Array Value) (hw : ∀ d ∈ tables_1, d.before a0 Z = true) (ws : List Jvm.Cond) (n274 : Int32) (h0 : Heap) (n0 : Nat) (Z0 : n0 ≤ h0.size) (d_291 : ¬ n274 < ci0) :
    MetFree l xm2 (head1 (Jvm.Cond.code xm2 jdk_65_method_131_code 2 none :: ws) xr34) (fun a U => a = #[cv0, (.int n274)] ∧ Z.Warmed39 U.vm ∧ U.heap = h0) (fun _ _ _ _ _ => True) (fun _ U o U' => ∃ v L, o = .returned v ∧ Q_Arrays_checkLength_0 Z n274 h0 n0 v U'.heap L ∧ FrameEnd U o U' L xr34.cells xr34.slots) := by
  refine MetFree.of_bodySF (plainFor_of_name pn_7) hisR ?_
  intro p e s m args below meth c s₁ Bd hml0 hP hK
  obtain ⟨rfl, hZ, hh⟩ := hP
  have hx := Bd.exec
  have hby := Bd.bytes
  have hlk : meth.locks = false := BodyLoose.notSynchronized Bd
  have hml : c.maxLocals = 2 := hml0
  have hown : s.vm.findClass xs27 = some m.cls := findClass_of_methodNamed Bd.named
  have hnm := (name_of_methodNamed Bd.named Bd.method).1
  have X0 : Stand p l e xr34 s m #[cv0, (.int n274)] below meth c s₁ [] 0 0 := Stand.of_body Bd
  have e0 : s₁.heap = h0 := by rw [← hh, Bd.state]; rfl
  have N0 := Fr.nil n0
  show Go p e below s (Q_Arrays_checkLength_0 Z n274 h0 n0) xr34.cells xr34.slots s₁ (entryFrame m #[cv0, (.int n274)] 2)
  refine Go.cast (ef_Arrays_checkLength_0 m ci0 n274) ?_
  show Go p e below s _ _ _ s₁ (mkF m 0 #[.val cv0, vi n274] [])
  refine Go.step (fun _ k => XS.iloadN X0.here hx rfl (hb hby d28_0) rfl (XS.iloadN X0.here hx rfl (hb hby d28_1) rfl (XS.icmpYes X0.here hx rfl (pc0 := 2) (pc' := 37) rfl (hb hby d28_2) rfl (flt d_291).2.1 (by decide) (by decide) k))) ?_
  show Go p e below s _ _ _ s₁ (mkF m 37 #[.val cv0, vi n274] [])
  exact Go.retV X0 hx hlk Bd.returns (hb hby d28_37) e0 ⟨rfl, N0, rfl⟩ (by decide) (by decide)

theorem ef_Math_min_0 (m : MethodId) (x0 : Int32) (x1 : Int32) : entryFrame m #[(.int x0), (.int x1)] 2 = mkF m 0 #[vi x0, vi x1] [] := by first | (simp [entryFrame, mkF, argsToLocals, Value.category]; done) | rfl
def Q_Math_min_0 (Z : State) (n302 : Int32) (n303 : Int32) (h0 : Heap) (n0 : Nat) (v : Option Value) (h : Heap) (L : List Loc) : Prop := v = some (.int n303) ∧ Fr n0 L ∧ h = h0
set_option maxRecDepth 65536 in
set_option maxHeartbeats 40000000 in
theorem rm_Math_min_0 (l : Launch) (Z : State) (a0 : Array Value) (hw : ∀ d ∈ tables_1, d.before a0 Z = true) (ws : List Jvm.Cond) (n302 : Int32) (n303 : Int32) (h0 : Heap) (n0 : Nat) (Z0 : n0 ≤ h0.size) (d_304 : n303 < n302) :
    MetFree l xm25 (head1 (Jvm.Cond.code xm25 jdk_29_method_69_code 2 (some .int) :: ws) xr34) (fun a U => a = #[(.int n302), (.int n303)] ∧ Z.Warmed39 U.vm ∧ U.heap = h0) (fun _ _ _ _ _ => True) (fun _ U o U' => ∃ v L, o = .returned v ∧ Q_Math_min_0 Z n302 n303 h0 n0 v U'.heap L ∧ FrameEnd U o U' L xr34.cells xr34.slots) := by
  refine MetFree.of_bodySF (Jvm.Free.JP.mathPlain rfl (by decide +kernel)) hisR ?_
  intro p e s m args below meth c s₁ Bd hml0 hP hK
  obtain ⟨rfl, hZ, hh⟩ := hP
  have hx := Bd.exec
  have hby := Bd.bytes
  have hlk : meth.locks = false := BodyLoose.notSynchronized Bd
  have hml : c.maxLocals = 2 := hml0
  have hown : s.vm.findClass xs30 = some m.cls := findClass_of_methodNamed Bd.named
  have hnm := (name_of_methodNamed Bd.named Bd.method).1
  have X0 : Stand p l e xr34 s m #[(.int n302), (.int n303)] below meth c s₁ [] 0 0 := Stand.of_body Bd
  have e0 : s₁.heap = h0 := by rw [← hh, Bd.state]; rfl
  have N0 := Fr.nil n0
  show Go p e below s (Q_Math_min_0 Z n302 n303 h0 n0) xr34.cells xr34.slots s₁ (entryFrame m #[(.int n302), (.int n303)] 2)
  refine Go.cast (ef_Math_min_0 m n302 n303) ?_
  show Go p e below s _ _ _ s₁ (mkF m 0 #[vi n302, vi n303] [])
  refine Go.step (fun _ k => XS.iloadN X0.here hx rfl (hb hby d29_0) rfl (XS.iloadN X0.here hx rfl (hb hby d29_1) rfl (XS.icmpYes X0.here hx rfl (pc0 := 2) (pc' := 9) rfl (hb hby d29_2) rfl (tlt d_304).2.2.1 (by decide) (by decide) (XS.iloadN X0.here hx rfl (hb hby d29_9) rfl k)))) ?_
  show Go p e below s _ _ _ s₁ (mkF m 10 #[vi n302, vi n303] [(.int n303)])
  exact Go.retI X0 hx hlk Bd.returns (hb hby d29_10) e0 ⟨rfl, N0, rfl⟩ (by decide) (by decide)

theorem ef_Arrays_copyOfRangeByte_0 (m : MethodId) (x0 : Addr) (x1 : Int32) (x2 : Int32) : entryFrame m #[(.ref x0), (.int x1), (.int x2)] 5 = mkF m 0 #[vr x0, vi x1, vi x2, .unset, .unset] [] := by first | (simp [entryFrame, mkF, argsToLocals, Value.category]; done) | rfl
def Q_Arrays_copyOfRangeByte_0 (Z : State) (uu7 : Addr) (n274 : Int32) (uu8 : ClassId) (l288 : List Value) (h0 : Heap) (n0 : Nat) (v : Option Value) (h : Heap) (L : List Loc) : Prop := ∃ (b297 : Addr) (k297 : ClassId), v = some (.ref b297) ∧ Fr n0 L ∧ Keep h0 h [] ∧ h0.size ≤ b297 ∧ Arv Z h b297 k297 .byte (n274 - ci0) (own_cp (own_rep (n274 - ci0) cv0) ci0 l288 ci0 (n274 - ci0) cv0) cv0
set_option maxRecDepth 65536 in
set_option maxHeartbeats 40000000 in
theorem rm_Arrays_copyOfRangeByte_0 (l : Launch) (Z : State) (a0 : Array Value) (hw : ∀ d ∈ tables_1, d.before a0 Z = true) (ws : List Jvm.Cond) (uu7 : Addr) (n274 : Int32) (uu8 : ClassId) (l288 : List Value) (h0 : Heap) (n0 : Nat) (Z0 : n0 ≤ h0.size) (d_292 : ¬ n274 < ci0) (d_295 : ¬ (n274 - ci0) < ci0) (d_296 : ((n274 - ci0)).toNatClampNeg ≤ 16) (V_b92_112_119 : Arv Z h0 uu7 uu8 .byte ci16 l288 cv0) (d_305 : (n274 - ci0) < ci16) (d_311 : (ci0).toNatClampNeg + ((n274 - ci0)).toNatClampNeg ≤ (ci16).toNatClampNeg) (d_312 : (ci0).toNatClampNeg + ((n274 - ci0)).toNatClampNeg ≤ ((n274 - ci0)).toNatClampNeg) (d_313 : (ci0).toNatClampNeg + ((n274 - ci0)).toNatClampNeg ≤ ((own_rep (n274 - ci0) cv0) : List Value).length) :
    MetFree l xm13 (head1 (Jvm.Cond.code xm13 jdk_65_method_133_code 5 (some (.array .byte)) :: ws) xr3) (fun a U => a = #[(.ref uu7), cv0, (.int n274)] ∧ Z.Warmed39 U.vm ∧ U.heap = h0) (fun _ _ _ _ _ => True) (fun _ U o U' => ∃ v L, o = .returned v ∧ Q_Arrays_copyOfRangeByte_0 Z uu7 n274 uu8 l288 h0 n0 v U'.heap L ∧ FrameEnd U o U' L xr3.cells xr3.slots) := by
  refine MetFree.of_bodySF (plainFor_of_name pn_7) hisR ?_
  intro p e s m args below meth c s₁ Bd hml0 hP hK
  obtain ⟨rfl, hZ, hh⟩ := hP
  have hx := Bd.exec
  have hby := Bd.bytes
  have hlk : meth.locks = false := BodyLoose.notSynchronized Bd
  have hml : c.maxLocals = 5 := hml0
  have hown : s.vm.findClass xs27 = some m.cls := findClass_of_methodNamed Bd.named
  have hnm := (name_of_methodNamed Bd.named Bd.method).1
  have X0 : Stand p l e xr3 s m #[(.ref uu7), cv0, (.int n274)] below meth c s₁ [] 0 0 := Stand.of_body Bd
  have e0 : s₁.heap = h0 := by rw [← hh, Bd.state]; rfl
  have N0 := Fr.nil n0
  show Go p e below s (Q_Arrays_copyOfRangeByte_0 Z uu7 n274 uu8 l288 h0 n0) xr3.cells xr3.slots s₁ (entryFrame m #[(.ref uu7), cv0, (.int n274)] 5)
  refine Go.cast (ef_Arrays_copyOfRangeByte_0 m uu7 ci0 n274) ?_
  show Go p e below s _ _ _ s₁ (mkF m 0 #[vr uu7, .val cv0, vi n274, .unset, .unset] [])
  refine Go.step (fun _ k => XS.iloadN X0.here hx rfl (hb hby d27_0) rfl (XS.iloadN X0.here hx rfl (hb hby d27_1) rfl k)) ?_
  show Go p e below s _ _ _ s₁ (mkF m 2 #[vr uu7, .val cv0, vi n274, .unset, .unset] [(.int n274), cv0])
  obtain ⟨_, _, ⟨T293, L293, k293, n293⟩, -, X293, ⟨Lc293, hQ293, l293, y293, z293⟩, st293⟩ := Jvm.LawKit.callS X0 hx (y := xm2) hown (mvT hZ (tw164 hw)) (mvT hZ (tw165 hw)) (mvT hZ (tw159 hw)) (mvT hZ (tw166 hw)) (by decide) (backOf (W := 0) (rm_Arrays_checkLength_0 l Z a0 hw [] n274 h0 n0 Z0 d_292) hZ (tw166 hw) (tw159 hw) (by decide) (by decide)) (g := (mkF m 2 #[vr uu7, .val cv0, vi n274, .unset, .unset] [(.int n274), cv0])) rfl (by rw [hml]; rfl) (argsL := [cv0, (.int n274)]) (rest := []) (lenOf pd_16 rfl) rfl (Nat.le_of_eq rfl) (hb hby d27_2) (fun _ _ => ⟨rfl, e0, (by decide : 0 + 0 ≤ _), (by decide : 0 + 0 ≤ _)⟩)
  dsimp only [Pt.U, Pt.locs, Pt.cells, Pt.slots] at X293 l293 y293 z293 st293 hQ293
  subst l293 y293 z293
  obtain ⟨rfl, N293q, eq293⟩ := hQ293
  have N294 := Fr.app N0 N293q
  refine Go.step (fun _ k => st293 _ (XS.iloadN X293.here hx rfl (hb hby d27_5) rfl (XS.iloadN X293.here hx rfl (hb hby d27_6) rfl (XS.isub X293.here hx rfl (hb hby d27_7) rfl (XS.istoreN X293.here hx rfl (hb hby d27_8) rfl (l' := #[vr uu7, .val cv0, vi n274, .val (.int (n274 - ci0)), .unset]) rfl (XS.iloadN X293.here hx rfl (hb hby d27_9) rfl k)))))) ?_
  show Go p e below s _ _ _ T293 (mkF m 10 #[vr uu7, .val cv0, vi n274, .val (.int (n274 - ci0)), .unset] [(.int (n274 - ci0))])
  obtain ⟨T297, h297, k297, X297, e297, E297, A297, st297⟩ := newP (aty := .byte) X293 hx hZ (tw26 hw) eq293 (g := (mkF m 10 #[vr uu7, .val cv0, vi n274, .val (.int (n274 - ci0)), .unset] [(.int (n274 - ci0))])) rfl (hb hby d27_10) rfl d_295 (cap := 16) d_296 (by decide) (by decide) (by decide)
  obtain ⟨b297, g297⟩ : ∃ z, z = h0.size := ⟨_, rfl⟩
  rw [← g297] at A297 st297
  have f298 : Arv Z h297 b297 k297 .byte (n274 - ci0) [] cv0 := Arv.new A297 d_295
  refine Go.step (fun _ k => st297 _ k) ?_
  have f299 : Arv Z h297 b297 k297 .byte (n274 - ci0) (own_rep (n274 - ci0) cv0) cv0 := Arv.pad f298 (pad_rep [] cv0 ((n274 - ci0)).toNatClampNeg)
  refine Go.step (fun _ k => XS.astore X297.here hx rfl (hb hby d27_12) rfl rfl (l' := #[vr uu7, .val cv0, vi n274, .val (.int (n274 - ci0)), vr b297]) rfl (XS.aloadN X297.here hx rfl (hb hby d27_14) rfl rfl (XS.iloadN X297.here hx rfl (hb hby d27_15) rfl (XS.aload X297.here hx rfl (hb hby d27_16) rfl rfl (XS.iconst X297.here hx rfl (hb hby d27_18) (XS.aloadN X297.here hx rfl (hb hby d27_19) rfl rfl k)))))) ?_
  show Go p e below s _ _ _ T297 (mkF m 20 #[vr uu7, .val cv0, vi n274, .val (.int (n274 - ci0)), vr b297] [(.ref uu7), cv0, (.ref b297), cv0, (.ref uu7)])
  have f300 := (V_b92_112_119.ext E297)
  obtain ⟨cl301, Ar301, -, Sz301, Ng301, -, -⟩ := id f300
  have aln301 := X297.arraylength hx (by rw [e297]; exact Ar301.1) (State.isArrayOf_alike hZ.alike Ar301.2.1) (g := (mkF m 20 #[vr uu7, .val cv0, vi n274, .val (.int (n274 - ci0)), vr b297] [(.ref uu7), cv0, (.ref b297), cv0, (.ref uu7)])) rfl rfl (hb hby d27_20)
  rw [len_of Sz301 Ng301] at aln301
  refine Go.step (fun _ k => aln301 _ (XS.iloadN X297.here hx rfl (hb hby d27_21) rfl (XS.isub X297.here hx rfl (hb hby d27_22) rfl (XS.iloadN X297.here hx rfl (hb hby d27_23) rfl k)))) ?_
  show Go p e below s _ _ _ T297 (mkF m 24 #[vr uu7, .val cv0, vi n274, .val (.int (n274 - ci0)), vr b297] [(.int (n274 - ci0)), cv16, cv0, (.ref b297), cv0, (.ref uu7)])
  have f306 := (Nat.le_trans Z0 E297.1)
  obtain ⟨_, _, ⟨T307, L307, k307, n307⟩, -, X307, ⟨Lc307, hQ307, l307, y307, z307⟩, st307⟩ := Jvm.LawKit.callS X297 hx (y := xm25) hown (mvT hZ (tw167 hw)) (mvT hZ (tw168 hw)) (mvT hZ (tw169 hw)) (mvT hZ (tw170 hw)) (by decide) (backOf (W := 4) (rm_Math_min_0 l Z a0 hw [] ci16 (n274 - ci0) h297 n0 f306 d_305) hZ (tw170 hw) (tw169 hw) (by decide) (by decide)) (g := (mkF m 24 #[vr uu7, .val cv0, vi n274, .val (.int (n274 - ci0)), vr b297] [(.int (n274 - ci0)), cv16, cv0, (.ref b297), cv0, (.ref uu7)])) rfl (by rw [hml]; rfl) (argsL := [cv16, (.int (n274 - ci0))]) (rest := [cv0, (.ref b297), cv0, (.ref uu7)]) (lenOf pd_17 rfl) rfl (Nat.le_of_eq rfl) (hb hby d27_24) (fun _ _ => ⟨rfl, e297, (by decide : 1 + 0 ≤ _), (by decide : 16 + 0 ≤ _)⟩)
  dsimp only [Pt.U, Pt.locs, Pt.cells, Pt.slots] at X307 l307 y307 z307 st307 hQ307
  subst l307 y307 z307
  obtain ⟨rfl, N307q, eq307⟩ := hQ307
  have N308 := Fr.app N294 N307q
  refine Go.step (fun _ k => st307 _ k) ?_
  show Go p e below s _ _ _ T307 (mkF m 27 #[vr uu7, .val cv0, vi n274, .val (.int (n274 - ci0)), vr b297] [(.int (n274 - ci0)), cv0, (.ref b297), cv0, (.ref uu7)])
  have g310 := Nat.le_trans Z0 (Nat.le_of_eq g297.symm)
  obtain ⟨T309, h309, L309, X309, e309, N309, K309, V309, st309⟩ := cpA X307 hx hZ hown (tw171 hw) (tw125 hw) (tw123 hw) (tw124 hw) eq307 f300 f299 (Or.inl ⟨rfl, rfl⟩) (by decide) (by decide) d_295 d_311 d_312 rfl d_313 N308 g310 (g := (mkF m 27 #[vr uu7, .val cv0, vi n274, .val (.int (n274 - ci0)), vr b297] [(.int (n274 - ci0)), cv0, (.ref b297), cv0, (.ref uu7)])) rfl (by rw [hml]; rfl) rfl (hb hby d27_27) (by decide) (W := 0) (Nat.le_of_eq rfl) (by decide)
  have f314 : Arv Z h309 b297 k297 .byte (n274 - ci0) (own_cp (own_rep (n274 - ci0) cv0) ci0 l288 ci0 (n274 - ci0) cv0) cv0 := V309
  refine Go.step (fun _ k => st309 _ (XS.aload X309.here hx rfl (hb hby d27_30) rfl rfl k)) ?_
  show Go p e below s _ _ _ T309 (mkF m 32 #[vr uu7, .val cv0, vi n274, .val (.int (n274 - ci0)), vr b297] [(.ref b297)])
  have z315 := Nat.le_trans (Nat.le_refl _) (Nat.le_of_eq g297.symm)
  have f316 := (((Keep.refl h0 []).ext E297).trans K309 (allS (Or.inr z315) all0))
  have f317 := (Nat.le_trans (Nat.le_trans (Nat.le_refl _) E297.1) K309.1)
  exact Go.retA X309 hx hlk Bd.returns rfl rfl (hb hby d27_32) e309 ⟨b297, k297, rfl, N309, f316, z315, f314⟩ (by decide) (by decide)

theorem ef_Arrays_copyOfRange_0 (m : MethodId) (x0 : Addr) (x1 : Int32) (x2 : Int32) : entryFrame m #[(.ref x0), (.int x1), (.int x2)] 3 = mkF m 0 #[vr x0, vi x1, vi x2] [] := by first | (simp [entryFrame, mkF, argsToLocals, Value.category]; done) | rfl
def Q_Arrays_copyOfRange_0 (Z : State) (uu7 : Addr) (n274 : Int32) (uu8 : ClassId) (l288 : List Value) (h0 : Heap) (n0 : Nat) (v : Option Value) (h : Heap) (L : List Loc) : Prop := ∃ (uu9 : Addr) (uu10 : ClassId), v = some (.ref uu9) ∧ Fr n0 L ∧ Keep h0 h [] ∧ h0.size ≤ uu9 ∧ Arv Z h uu9 uu10 .byte (n274 - ci0) (own_cp (own_rep (n274 - ci0) cv0) ci0 l288 ci0 (n274 - ci0) cv0) cv0
set_option maxRecDepth 65536 in
set_option maxHeartbeats 40000000 in
theorem rm_Arrays_copyOfRange_0 (l : Launch) (Z : State) (a0 : Array Value) (hw : ∀ d ∈ tables_1, d.before a0 Z = true) (ws : List Jvm.Cond) (uu7 : Addr) (n274 : Int32) (uu8 : ClassId) (l288 : List Value) (h0 : Heap) (n0 : Nat) (Z0 : n0 ≤ h0.size) (V_b92_112_119 : Arv Z h0 uu7 uu8 .byte ci16 l288 cv0) (d_290 : ¬ n274 = ci16) (d_318 : ¬ n274 < ci0) (d_319 : ¬ (n274 - ci0) < ci0) (d_320 : ((n274 - ci0)).toNatClampNeg ≤ 16) (d_321 : (n274 - ci0) < ci16) (d_322 : (ci0).toNatClampNeg + ((n274 - ci0)).toNatClampNeg ≤ (ci16).toNatClampNeg) (d_323 : (ci0).toNatClampNeg + ((n274 - ci0)).toNatClampNeg ≤ ((n274 - ci0)).toNatClampNeg) (d_324 : (ci0).toNatClampNeg + ((n274 - ci0)).toNatClampNeg ≤ ((own_rep (n274 - ci0) cv0) : List Value).length) :
    MetFree l xm0 (head1 (Jvm.Cond.code xm0 jdk_65_method_132_code 3 (some (.array .byte)) :: ws) xr4) (fun a U => a = #[(.ref uu7), cv0, (.int n274)] ∧ Z.Warmed39 U.vm ∧ U.heap = h0) (fun _ _ _ _ _ => True) (fun _ U o U' => ∃ v L, o = .returned v ∧ Q_Arrays_copyOfRange_0 Z uu7 n274 uu8 l288 h0 n0 v U'.heap L ∧ FrameEnd U o U' L xr4.cells xr4.slots) := by
  refine MetFree.of_bodySF (plainFor_of_name pn_7) hisR ?_
  intro p e s m args below meth c s₁ Bd hml0 hP hK
  obtain ⟨rfl, hZ, hh⟩ := hP
  have hx := Bd.exec
  have hby := Bd.bytes
  have hlk : meth.locks = false := BodyLoose.notSynchronized Bd
  have hml : c.maxLocals = 3 := hml0
  have hown : s.vm.findClass xs27 = some m.cls := findClass_of_methodNamed Bd.named
  have hnm := (name_of_methodNamed Bd.named Bd.method).1
  have X0 : Stand p l e xr4 s m #[(.ref uu7), cv0, (.int n274)] below meth c s₁ [] 0 0 := Stand.of_body Bd
  have e0 : s₁.heap = h0 := by rw [← hh, Bd.state]; rfl
  have N0 := Fr.nil n0
  show Go p e below s (Q_Arrays_copyOfRange_0 Z uu7 n274 uu8 l288 h0 n0) xr4.cells xr4.slots s₁ (entryFrame m #[(.ref uu7), cv0, (.int n274)] 3)
  refine Go.cast (ef_Arrays_copyOfRange_0 m uu7 ci0 n274) ?_
  show Go p e below s _ _ _ s₁ (mkF m 0 #[vr uu7, .val cv0, vi n274] [])
  refine Go.step (fun _ k => XS.iloadN X0.here hx rfl (hb hby d26_0) rfl (XS.ifNo X0.here hx rfl (hb hby d26_1) rfl ((if0 _ _).trans (teq (by decide)).2) (XS.iloadN X0.here hx rfl (hb hby d26_4) rfl (XS.aloadN X0.here hx rfl (hb hby d26_5) rfl rfl k)))) ?_
  show Go p e below s _ _ _ s₁ (mkF m 6 #[vr uu7, .val cv0, vi n274] [(.ref uu7), (.int n274)])
  obtain ⟨cl289, Ar289, -, Sz289, Ng289, -, -⟩ := id V_b92_112_119
  have aln289 := X0.arraylength hx (by rw [e0]; exact Ar289.1) (State.isArrayOf_alike hZ.alike Ar289.2.1) (g := (mkF m 6 #[vr uu7, .val cv0, vi n274] [(.ref uu7), (.int n274)])) rfl rfl (hb hby d26_6)
  rw [len_of Sz289 Ng289] at aln289
  refine Go.step (fun _ k => aln289 _ (XS.icmpNo X0.here hx rfl (hb hby d26_7) rfl (feq d_290).1 (XS.aloadN X0.here hx rfl (hb hby d26_10) rfl rfl (XS.iloadN X0.here hx rfl (hb hby d26_11) rfl (XS.iloadN X0.here hx rfl (hb hby d26_12) rfl k))))) ?_
  show Go p e below s _ _ _ s₁ (mkF m 13 #[vr uu7, .val cv0, vi n274] [(.int n274), cv0, (.ref uu7)])
  obtain ⟨_, _, ⟨T325, L325, k325, n325⟩, -, X325, ⟨Lc325, hQ325, l325, y325, z325⟩, st325⟩ := Jvm.LawKit.callS X0 hx (y := xm13) hown (mvT hZ (tw161 hw)) (mvT hZ (tw162 hw)) (mvT hZ (tw159 hw)) (mvT hZ (tw163 hw)) (by decide) (backOf (W := 0) (rm_Arrays_copyOfRangeByte_0 l Z a0 hw [] uu7 n274 uu8 l288 h0 n0 Z0 d_318 d_319 d_320 V_b92_112_119 d_321 d_322 d_323 d_324) hZ (tw163 hw) (tw159 hw) (by decide) (by decide)) (g := (mkF m 13 #[vr uu7, .val cv0, vi n274] [(.int n274), cv0, (.ref uu7)])) rfl (by rw [hml]; rfl) (argsL := [(.ref uu7), cv0, (.int n274)]) (rest := []) (lenOf pd_18 rfl) rfl (Nat.le_of_eq rfl) (hb hby d26_13) (fun _ _ => ⟨rfl, e0, (by decide : 0 + 1 ≤ _), (by decide : 0 + 16 ≤ _)⟩)
  dsimp only [Pt.U, Pt.locs, Pt.cells, Pt.slots] at X325 l325 y325 z325 st325 hQ325
  subst l325 y325 z325
  obtain ⟨uu9, uu10, rfl, N325q, K325, P325_0, P325_1⟩ := hQ325
  have N326 := Fr.app N0 N325q
  refine Go.step (fun _ k => st325 _ k) ?_
  show Go p e below s _ _ _ T325 (mkF m 16 #[vr uu7, .val cv0, vi n274] [(.ref uu9)])
  have f327 := ((Keep.refl h0 []).trans K325 all0)
  have z328 := Nat.le_trans (Nat.le_refl _) P325_0
  have f329 := (Nat.le_trans (Nat.le_refl _) K325.1)
  exact Go.retA X325 hx hlk Bd.returns rfl rfl (hb hby d26_16) rfl ⟨uu9, uu10, rfl, N326, f327, z328, P325_1⟩ (by decide) (by decide)

theorem ef_String_new_3 (m : MethodId) (x0 : Addr) (x1 : Addr) : entryFrame m #[(.ref x0), (.ref x1), .null] 5 = mkF m 0 #[vr x0, vr x1, .val .null, .unset, .unset] [] := by first | (simp [entryFrame, mkF, argsToLocals, Value.category]; done) | rfl
def Q_String_new_3 (Z : State) (b267 : Addr) (b86 : Addr) (uu7 : Addr) (n274 : Int32) (cs : Int32) (uu8 : ClassId) (l288 : List Value) (h0 : Heap) (n0 : Nat) (v : Option Value) (h : Heap) (L : List Loc) : Prop := ∃ (uu11 : Addr) (uu12 : ClassId), v = none ∧ Fr n0 L ∧ Keep h0 h [b267] ∧ Fld Z h b267 xs25 "coder" "B" cv0 ∧ Fld Z h b267 xs25 "value" "[B" (.ref uu11) ∧ h0.size ≤ uu11 ∧ Arv Z h uu11 uu12 .byte (n274 - ci0) (own_cp (own_rep (n274 - ci0) cv0) ci0 l288 ci0 (n274 - ci0) cv0) cv0
set_option maxRecDepth 65536 in
set_option maxHeartbeats 40000000 in
theorem rm_String_new_3 (l : Launch) (Z : State) (a0 : Array Value) (hw : ∀ d ∈ tables_1, d.before a0 Z = true) (ws : List Jvm.Cond) (b267 : Addr) (b86 : Addr) (uu7 : Addr) (n274 : Int32) (cs : Int32) (uu8 : ClassId) (l288 : List Value) (h0 : Heap) (n0 : Nat) (Z0 : n0 ≤ h0.size) (E_b86 : Exa Z h0 b86 xs13) (F_value_b86 : Fld Z h0 b86 xs9 "value" "[B" (.ref uu7)) (F_count_b86 : Fld Z h0 b86 xs9 "count" "I" (.int n274)) (Z_S_COMPACT_STRINGS : Sta Z Z.heap xs25 xs28 "Z" (.int cs)) (O0 : Old Z n0 h0) (hcs : ¬ cs = ci0) (F_coder_b86 : Fld Z h0 b86 xs9 "coder" "B" cv0) (E_b267 : Exa Z h0 b267 xs25) (F_coder_b267 : Fld Z h0 b267 xs25 "coder" "B" cv0) (g_b267 : n0 ≤ b267) (V_b92_112_119 : Arv Z h0 uu7 uu8 .byte ci16 l288 cv0) (d_330 : ¬ n274 = ci16) (d_331 : ¬ n274 < ci0) (d_332 : ¬ (n274 - ci0) < ci0) (d_333 : ((n274 - ci0)).toNatClampNeg ≤ 16) (d_334 : (n274 - ci0) < ci16) (d_335 : (ci0).toNatClampNeg + ((n274 - ci0)).toNatClampNeg ≤ (ci16).toNatClampNeg) (d_336 : (ci0).toNatClampNeg + ((n274 - ci0)).toNatClampNeg ≤ ((n274 - ci0)).toNatClampNeg) (d_337 : (ci0).toNatClampNeg + ((n274 - ci0)).toNatClampNeg ≤ ((own_rep (n274 - ci0) cv0) : List Value).length) (ne_b92_112_119_b267 : uu7 ≠ b267) (F_value_b267 : Fld Z h0 b267 xs25 "value" "[B" .null) :
    MetFree l xm29 (head1 (Jvm.Cond.code xm29 jdk_42_method_150_code 5 none :: ws) xr5) (fun a U => a = #[(.ref b267), (.ref b86), .null] ∧ Z.Warmed39 U.vm ∧ U.heap = h0) (fun _ _ _ _ _ => True) (fun _ U o U' => ∃ v L, o = .returned v ∧ Q_String_new_3 Z b267 b86 uu7 n274 cs uu8 l288 h0 n0 v U'.heap L ∧ FrameEnd U o U' L xr5.cells xr5.slots) := by
  refine MetFree.of_bodySF (plainFor_of_name pn_1) hisR ?_
  intro p e s m args below meth c s₁ Bd hml0 hP hK
  obtain ⟨rfl, hZ, hh⟩ := hP
  have hx := Bd.exec
  have hby := Bd.bytes
  have hlk : meth.locks = false := BodyLoose.notSynchronized Bd
  have hml : c.maxLocals = 5 := hml0
  have hown : s.vm.findClass xs25 = some m.cls := findClass_of_methodNamed Bd.named
  have hnm := (name_of_methodNamed Bd.named Bd.method).1
  have X0 : Stand p l e xr5 s m #[(.ref b267), (.ref b86), .null] below meth c s₁ [] 0 0 := Stand.of_body Bd
  have e0 : s₁.heap = h0 := by rw [← hh, Bd.state]; rfl
  have N0 := Fr.nil n0
  show Go p e below s (Q_String_new_3 Z b267 b86 uu7 n274 cs uu8 l288 h0 n0) xr5.cells xr5.slots s₁ (entryFrame m #[(.ref b267), (.ref b86), .null] 5)
  refine Go.cast (ef_String_new_3 m b267 b86) ?_
  show Go p e below s _ _ _ s₁ (mkF m 0 #[vr b267, vr b86, .val .null, .unset, .unset] [])
  refine Go.step (fun _ k => XS.aloadN X0.here hx rfl (hb hby d21_0) rfl rfl k) ?_
  show Go p e below s _ _ _ s₁ (mkF m 1 #[vr b267, vr b86, .val .null, .unset, .unset] [(.ref b267)])
  obtain ⟨T270, X270, e270, st270⟩ := initO X0 hx hZ hown (tw18 hw) (tw19 hw) (tw20 hw) e0 (g := (mkF m 1 #[vr b267, vr b86, .val .null, .unset, .unset] [(.ref b267)])) rfl (by rw [hml]; rfl) rfl (hb hby d21_1) (by decide) (W := 0) (Nat.le_of_eq rfl) (by decide)
  refine Go.step (fun _ k => st270 _ (XS.aloadN X270.here hx rfl (hb hby d21_4) rfl rfl k)) ?_
  show Go p e below s _ _ _ T270 (mkF m 5 #[vr b267, vr b86, .val .null, .unset, .unset] [(.ref b86)])
  obtain ⟨cq272, kq272, q272a, q272b, q272c⟩ := isOf hZ e270 E_b86
  obtain ⟨_, _, ⟨T272, L272, k272, n272⟩, -, X272, ⟨Lc272, hQ272, l272, y272, z272⟩, st272⟩ := X270.virtualBack hx (y := xm9) (z := xm9) hown (mvT hZ (tw139 hw)) (mvT hZ (tw140 hw)) (notFace_of_selects (args := #[]) (mvT hZ (tw142 hw))) (mvT hZ (tw142 hw)) (mvT hZ (tw141 hw)) (by decide) (backOf (W := 0) (rm_AbstractStringBuilder_getValue_0 l Z a0 hw [] b86 uu7 h0 n0 Z0 F_value_b86) hZ (tw143 hw) (tw71 hw) (by decide) (by decide)) q272a q272c (g := (mkF m 5 #[vr b267, vr b86, .val .null, .unset, .unset] [(.ref b86)])) rfl (by rw [hml]; rfl) (Steps.refl _) (argsL := []) (rest := []) (lenOf pd_14 rfl) rfl (Nat.le_of_eq rfl) (hb hby d21_5) (fun _ _ => ⟨rfl, e270, (by decide : 0 + 0 ≤ _), (by decide : 0 + 0 ≤ _)⟩)
  dsimp only [Pt.U, Pt.locs, Pt.cells, Pt.slots] at X272 l272 y272 z272 st272 hQ272
  subst l272 y272 z272
  obtain ⟨rfl, N272q, eq272⟩ := hQ272
  have N273 := Fr.app N0 N272q
  refine Go.step (fun _ k => st272.trans (XS.astoreN X272.here hx rfl (hb hby d21_8) rfl rfl (l' := #[vr b267, vr b86, .val .null, vr uu7, .unset]) rfl (XS.aloadN X272.here hx rfl (hb hby d21_9) rfl rfl k))) ?_
  show Go p e below s _ _ _ T272 (mkF m 10 #[vr b267, vr b86, .val .null, vr uu7, .unset] [(.ref b86)])
  obtain ⟨cq278, kq278, q278a, q278b, q278c⟩ := isOf hZ eq272 E_b86
  obtain ⟨_, _, ⟨T278, L278, k278, n278⟩, -, X278, ⟨Lc278, hQ278, l278, y278, z278⟩, st278⟩ := X272.virtualBack hx (y := xm24) (z := xm20) hown (mvT hZ (tw144 hw)) (mvT hZ (tw145 hw)) (own_nf (args := #[]) (mvT hZ (tw104 hw)) rfl) (mvT hZ (tw147 hw)) (mvT hZ (tw148 hw)) (by decide) (backOf (W := 0) (rm_StringBuilder_length_0 l Z a0 hw [] b86 n274 h0 n0 Z0 F_count_b86 E_b86) hZ (tw149 hw) (tw63 hw) (by decide) (by decide)) q278a q278c (g := (mkF m 10 #[vr b267, vr b86, .val .null, vr uu7, .unset] [(.ref b86)])) rfl (by rw [hml]; rfl) (Steps.refl _) (argsL := []) (rest := []) (lenOf pd_8 rfl) rfl (Nat.le_of_eq rfl) (hb hby d21_10) (fun _ _ => ⟨rfl, eq272, (by decide : 0 + 0 ≤ _), (by decide : 0 + 0 ≤ _)⟩)
  dsimp only [Pt.U, Pt.locs, Pt.cells, Pt.slots] at X278 l278 y278 z278 st278 hQ278
  subst l278 y278 z278
  obtain ⟨rfl, N278q, eq278⟩ := hQ278
  have N279 := Fr.app N273 N278q
  refine Go.step (fun _ k => st278.trans (XS.istore X278.here hx rfl (hb hby d21_13) rfl (l' := #[vr b267, vr b86, .val .null, vr uu7, vi n274]) rfl (XS.aloadN X278.here hx rfl (hb hby d21_15) rfl rfl k))) ?_
  show Go p e below s _ _ _ T278 (mkF m 16 #[vr b267, vr b86, .val .null, vr uu7, vi n274] [(.ref b86)])
  obtain ⟨cq282, kq282, q282a, q282b, q282c⟩ := isOf hZ eq278 E_b86
  obtain ⟨_, _, ⟨T282, L282, k282, n282⟩, -, X282, ⟨Lc282, hQ282, l282, y282, z282⟩, st282⟩ := X278.virtualBack hx (y := xm12) (z := xm12) hown (mvT hZ (tw152 hw)) (mvT hZ (tw153 hw)) (notFace_of_selects (args := #[]) (mvT hZ (tw155 hw))) (mvT hZ (tw155 hw)) (mvT hZ (tw154 hw)) (by decide) (backOf (W := 0) (rm_AbstractStringBuilder_isLatin1_0 l Z a0 hw [] b86 cs h0 n0 Z0 Z_S_COMPACT_STRINGS O0 hcs F_coder_b86) hZ (tw156 hw) (tw71 hw) (by decide) (by decide)) q282a q282c (g := (mkF m 16 #[vr b267, vr b86, .val .null, vr uu7, vi n274] [(.ref b86)])) rfl (by rw [hml]; rfl) (Steps.refl _) (argsL := []) (rest := []) (lenOf pd_15 rfl) rfl (Nat.le_of_eq rfl) (hb hby d21_16) (fun _ _ => ⟨rfl, eq278, (by decide : 0 + 0 ≤ _), (by decide : 0 + 0 ≤ _)⟩)
  dsimp only [Pt.U, Pt.locs, Pt.cells, Pt.slots] at X282 l282 y282 z282 st282 hQ282
  subst l282 y282 z282
  obtain ⟨rfl, N282q, eq282⟩ := hQ282
  have N283 := Fr.app N279 N282q
  refine Go.step (fun _ k => st282.trans (XS.ifNo X282.here hx rfl (hb hby d21_19) rfl ((if0 _ _).trans (feq (by decide)).1) (XS.aloadN X282.here hx rfl (hb hby d21_22) rfl rfl (XS.iconst X282.here hx rfl (hb hby d21_23) k)))) ?_
  show Go p e below s _ _ _ T282 (mkF m 24 #[vr b267, vr b86, .val .null, vr uu7, vi n274] [cv0, (.ref b267)])
  obtain ⟨T284, h284, X284, e284, W284, st284⟩ := putFN X282 hx hZ hown (tw33 hw) Via.refl eq282 F_coder_b267 E_b267 (Or.inr ⟨(tw34 hw), rfl, hnm⟩) (tw5 hw) (ty := .byte) (v' := cv0) (by decide) rfl rfl (g := (mkF m 24 #[vr b267, vr b86, .val .null, vr uu7, vi n274] [cv0, (.ref b267)])) rfl rfl (hb hby d21_24)
  have f286 := F_coder_b267.same W284
  have N287 := Fr.snoc X284 N283 g_b267
  refine Go.step (fun _ k => st284 _ (XS.aloadN X284.here hx rfl (hb hby d21_27) rfl rfl (XS.aloadN X284.here hx rfl (hb hby d21_28) rfl rfl (XS.iconst X284.here hx rfl (hb hby d21_29) (XS.iload X284.here hx rfl (hb hby d21_30) rfl k))))) ?_
  show Go p e below s _ _ _ T284 (mkF m 32 #[vr b267, vr b86, .val .null, vr uu7, vi n274] [(.int n274), cv0, (.ref uu7), (.ref b267)])
  have f338 := (Nat.le_trans Z0 (Keep.of_wr W284).1)
  have f340 := (V_b92_112_119.other W284 ne_b92_112_119_b267)
  obtain ⟨_, _, ⟨T341, L341, k341, n341⟩, -, X341, ⟨Lc341, hQ341, l341, y341, z341⟩, st341⟩ := Jvm.LawKit.callS X284 hx (y := xm0) hown (mvT hZ (tw157 hw)) (mvT hZ (tw158 hw)) (mvT hZ (tw159 hw)) (mvT hZ (tw160 hw)) (by decide) (backOf (W := 1) (rm_Arrays_copyOfRange_0 l Z a0 hw [] uu7 n274 uu8 l288 h284 n0 f338 f340 d_330 d_331 d_332 d_333 d_334 d_335 d_336 d_337) hZ (tw160 hw) (tw159 hw) (by decide) (by decide)) (g := (mkF m 32 #[vr b267, vr b86, .val .null, vr uu7, vi n274] [(.int n274), cv0, (.ref uu7), (.ref b267)])) rfl (by rw [hml]; rfl) (argsL := [(.ref uu7), cv0, (.int n274)]) (rest := [(.ref b267)]) (lenOf pd_18 rfl) rfl (Nat.le_of_eq rfl) (hb hby d21_32) (fun _ _ => ⟨rfl, e284, (by decide : 0 + 1 ≤ _), (by decide : 0 + 16 ≤ _)⟩)
  dsimp only [Pt.U, Pt.locs, Pt.cells, Pt.slots] at X341 l341 y341 z341 st341 hQ341
  subst l341 y341 z341
  obtain ⟨uu11, uu12, rfl, N341q, K341, P341_0, P341_1⟩ := hQ341
  have N342 := Fr.app N287 N341q
  refine Go.step (fun _ k => st341 _ k) ?_
  show Go p e below s _ _ _ T341 (mkF m 35 #[vr b267, vr b86, .val .null, vr uu7, vi n274] [(.ref uu11), (.ref b267)])
  have f343 := ((F_value_b267.other W284 (Or.inr (slot_ne (Or.inr (tw36 hw)) (Or.inr (tw34 hw)) (by decide) (t := (.array .byte)) (t' := .byte) (by decide) (by decide)))).keep K341 nin0)
  have f344 := ((E_b267.wr W284).keep K341)
  obtain ⟨T345, h345, X345, e345, W345, st345⟩ := putF X341 hx hZ hown (host := "") (Or.inl (tw35 hw)) Via.refl rfl f343 f344 (Or.inr ⟨(tw36 hw), rfl, hnm⟩) (tw5 hw) (ty := (.array .byte)) (by decide) rfl rfl (g := (mkF m 35 #[vr b267, vr b86, .val .null, vr uu7, vi n274] [(.ref uu11), (.ref b267)])) rfl rfl (hb hby d21_35)
  have f346 := f343.same W345
  have N347 := Fr.snoc X345 N342 g_b267
  refine Go.step (fun _ k => st345 _ (XS.goto X345.here hx rfl (pc0 := 38) (pc' := 97) rfl (hb hby d21_38) (by decide) (by decide) k)) ?_
  show Go p e below s _ _ _ T345 (mkF m 97 #[vr b267, vr b86, .val .null, vr uu7, vi n274] [])
  have f348 := ((((Keep.refl h0 [b267]).wr W284 (Or.inl (List.mem_of_getElem? (i := 0) rfl))).trans K341 all0).wr W345 (Or.inl (List.mem_of_getElem? (i := 0) rfl)))
  have f349 := ((f286.keep K341 nin0).other W345 (Or.inr (slot_ne (Or.inr (tw34 hw)) (Or.inr (tw36 hw)) (by decide) (t := .byte) (t' := (.array .byte)) (by decide) (by decide))))
  have f350 := (Nat.le_trans (Nat.le_refl _) (Keep.of_wr W284).1)
  have z351 := Nat.le_trans f350 P341_0
  have f352 := (E_b267.wr W284)
  have ne353 : b267 ≠ uu11 := Nat.ne_of_lt (Nat.lt_of_lt_of_le f352.lt P341_0)
  have f354 := (P341_1.other W345 (Ne.symm ne353))
  have f355 := (Nat.le_trans (Nat.le_trans (Nat.le_trans (Nat.le_refl _) (Keep.of_wr W284).1) K341.1) (Keep.of_wr W345).1)
  exact Go.retV X345 hx hlk Bd.returns (hb hby d21_97) e345 ⟨uu11, uu12, rfl, N347, f348, f349, f346, z351, f354⟩ (by decide) (by decide)

theorem ef_String_new_2 (m : MethodId) (x0 : Addr) (x1 : Addr) : entryFrame m #[(.ref x0), (.ref x1)] 2 = mkF m 0 #[vr x0, vr x1] [] := by first | (simp [entryFrame, mkF, argsToLocals, Value.category]; done) | rfl
def Q_String_new_2 (Z : State) (b267 : Addr) (b86 : Addr) (uu7 : Addr) (n274 : Int32) (cs : Int32) (uu8 : ClassId) (l288 : List Value) (h0 : Heap) (n0 : Nat) (v : Option Value) (h : Heap) (L : List Loc) : Prop := ∃ (uu13 : Addr) (uu14 : ClassId), v = none ∧ Fr n0 L ∧ Keep h0 h [b267] ∧ Fld Z h b267 xs25 "coder" "B" cv0 ∧ Fld Z h b267 xs25 "value" "[B" (.ref uu13) ∧ h0.size ≤ uu13 ∧ Arv Z h uu13 uu14 .byte (n274 - ci0) (own_cp (own_rep (n274 - ci0) cv0) ci0 l288 ci0 (n274 - ci0) cv0) cv0
set_option maxRecDepth 65536 in
set_option maxHeartbeats 40000000 in
theorem rm_String_new_2 (l : Launch) (Z : State) (a0 : Array Value) (hw : ∀ d ∈ tables_1, d.before a0 Z = true) (ws : List Jvm.Cond) (b267 : Addr) (b86 : Addr) (uu7 : Addr) (n274 : Int32) (cs : Int32) (uu8 : ClassId) (l288 : List Value) (h0 : Heap) (n0 : Nat) (Z0 : n0 ≤ h0.size) (E_b86 : Exa Z h0 b86 xs13) (F_value_b86 : Fld Z h0 b86 xs9 "value" "[B" (.ref uu7)) (F_count_b86 : Fld Z h0 b86 xs9 "count" "I" (.int n274)) (Z_S_COMPACT_STRINGS : Sta Z Z.heap xs25 xs28 "Z" (.int cs)) (O0 : Old Z n0 h0) (hcs : ¬ cs = ci0) (F_coder_b86 : Fld Z h0 b86 xs9 "coder" "B" cv0) (E_b267 : Exa Z h0 b267 xs25) (F_coder_b267 : Fld Z h0 b267 xs25 "coder" "B" cv0) (g_b267 : n0 ≤ b267) (V_b92_112_119 : Arv Z h0 uu7 uu8 .byte ci16 l288 cv0) (ne_b92_112_119_b267 : uu7 ≠ b267) (F_value_b267 : Fld Z h0 b267 xs25 "value" "[B" .null) (d_356 : ¬ n274 = ci16) (d_357 : ¬ n274 < ci0) (d_358 : ¬ (n274 - ci0) < ci0) (d_359 : ((n274 - ci0)).toNatClampNeg ≤ 16) (d_360 : (n274 - ci0) < ci16) (d_361 : (ci0).toNatClampNeg + ((n274 - ci0)).toNatClampNeg ≤ (ci16).toNatClampNeg) (d_362 : (ci0).toNatClampNeg + ((n274 - ci0)).toNatClampNeg ≤ ((n274 - ci0)).toNatClampNeg) (d_363 : (ci0).toNatClampNeg + ((n274 - ci0)).toNatClampNeg ≤ ((own_rep (n274 - ci0) cv0) : List Value).length) :
    MetFree l xm26 (head1 (Jvm.Cond.code xm26 jdk_42_method_53_code 2 none :: ws) xr6) (fun a U => a = #[(.ref b267), (.ref b86)] ∧ Z.Warmed39 U.vm ∧ U.heap = h0) (fun _ _ _ _ _ => True) (fun _ U o U' => ∃ v L, o = .returned v ∧ Q_String_new_2 Z b267 b86 uu7 n274 cs uu8 l288 h0 n0 v U'.heap L ∧ FrameEnd U o U' L xr6.cells xr6.slots) := by
  refine MetFree.of_bodySF (plainFor_of_name pn_1) hisR ?_
  intro p e s m args below meth c s₁ Bd hml0 hP hK
  obtain ⟨rfl, hZ, hh⟩ := hP
  have hx := Bd.exec
  have hby := Bd.bytes
  have hlk : meth.locks = false := BodyLoose.notSynchronized Bd
  have hml : c.maxLocals = 2 := hml0
  have hown : s.vm.findClass xs25 = some m.cls := findClass_of_methodNamed Bd.named
  have hnm := (name_of_methodNamed Bd.named Bd.method).1
  have X0 : Stand p l e xr6 s m #[(.ref b267), (.ref b86)] below meth c s₁ [] 0 0 := Stand.of_body Bd
  have e0 : s₁.heap = h0 := by rw [← hh, Bd.state]; rfl
  have N0 := Fr.nil n0
  show Go p e below s (Q_String_new_2 Z b267 b86 uu7 n274 cs uu8 l288 h0 n0) xr6.cells xr6.slots s₁ (entryFrame m #[(.ref b267), (.ref b86)] 2)
  refine Go.cast (ef_String_new_2 m b267 b86) ?_
  show Go p e below s _ _ _ s₁ (mkF m 0 #[vr b267, vr b86] [])
  refine Go.step (fun _ k => XS.aloadN X0.here hx rfl (hb hby d20_0) rfl rfl (XS.aloadN X0.here hx rfl (hb hby d20_1) rfl rfl (XS.aconstNull X0.here hx rfl (hb hby d20_2) k))) ?_
  show Go p e below s _ _ _ s₁ (mkF m 3 #[vr b267, vr b86] [.null, (.ref b86), (.ref b267)])
  obtain ⟨_, _, ⟨T364, L364, k364, n364⟩, -, X364, ⟨Lc364, hQ364, l364, y364, z364⟩, st364⟩ := X0.specialBack hx (y := xm29) rfl hown (mvT hZ (tw136 hw)) (mvT hZ (tw137 hw)) (mvT hZ (tw138 hw)) (by decide) (backOf (W := 0) (rm_String_new_3 l Z a0 hw [] b267 b86 uu7 n274 cs uu8 l288 h0 n0 Z0 E_b86 F_value_b86 F_count_b86 Z_S_COMPACT_STRINGS O0 hcs F_coder_b86 E_b267 F_coder_b267 g_b267 V_b92_112_119 d_356 d_357 d_358 d_359 d_360 d_361 d_362 d_363 ne_b92_112_119_b267 F_value_b267) hZ (tw138 hw) (tw6 hw) (by decide) (by decide)) (g := (mkF m 3 #[vr b267, vr b86] [.null, (.ref b86), (.ref b267)])) rfl (by rw [hml]; rfl) (Steps.refl _) (a := b267) (argsL := [(.ref b86), .null]) (rest := []) (lenOf pd_19 rfl) rfl (Nat.le_of_eq rfl) (hb hby d20_3) (fun _ _ => ⟨rfl, e0, (by decide : 0 + 1 ≤ _), (by decide : 0 + 16 ≤ _)⟩)
  dsimp only [Pt.U, Pt.locs, Pt.cells, Pt.slots] at X364 l364 y364 z364 st364 hQ364
  subst l364 y364 z364
  obtain ⟨uu13, uu14, rfl, N364q, K364, P364_0, P364_1, P364_2, P364_3⟩ := hQ364
  have N365 := Fr.app N0 N364q
  refine Go.step (fun _ k => st364.trans k) ?_
  show Go p e below s _ _ _ T364 (mkF m 6 #[vr b267, vr b86] [])
  have f366 := ((Keep.refl h0 [b267]).trans K364 (allS (Or.inl (List.mem_of_getElem? (i := 0) rfl)) all0))
  have z367 := Nat.le_trans (Nat.le_refl _) P364_2
  have f368 := (Nat.le_trans (Nat.le_refl _) K364.1)
  exact Go.retV X364 hx hlk Bd.returns (hb hby d20_6) rfl ⟨uu13, uu14, rfl, N365, f366, P364_0, P364_1, z367, P364_3⟩ (by decide) (by decide)

theorem ef_StringBuilder_toString_0 (m : MethodId) (x0 : Addr) : entryFrame m #[(.ref x0)] 1 = mkF m 0 #[vr x0] [] := by first | (simp [entryFrame, mkF, argsToLocals, Value.category]; done) | rfl
def Q_StringBuilder_toString_0 (Z : State) (b86 : Addr) (uu7 : Addr) (n274 : Int32) (cs : Int32) (uu8 : ClassId) (l288 : List Value) (h0 : Heap) (n0 : Nat) (v : Option Value) (h : Heap) (L : List Loc) : Prop := ∃ (b267 : Addr) (uu15 : Addr) (uu16 : ClassId), v = some (.ref b267) ∧ Fr n0 L ∧ Keep h0 h [] ∧ h0.size ≤ b267 ∧ Exa Z h b267 xs25 ∧ Fld Z h b267 xs25 "coder" "B" cv0 ∧ Fld Z h b267 xs25 "value" "[B" (.ref uu15) ∧ h0.size ≤ uu15 ∧ Arv Z h uu15 uu16 .byte (n274 - ci0) (own_cp (own_rep (n274 - ci0) cv0) ci0 l288 ci0 (n274 - ci0) cv0) cv0 ∧ b267 ≠ uu15
set_option maxRecDepth 65536 in
set_option maxHeartbeats 40000000 in
theorem rm_StringBuilder_toString_0 (l : Launch) (Z : State) (a0 : Array Value) (hw : ∀ d ∈ tables_1, d.before a0 Z = true) (ws : List Jvm.Cond) (b86 : Addr) (uu7 : Addr) (n274 : Int32) (cs : Int32) (uu8 : ClassId) (l288 : List Value) (h0 : Heap) (n0 : Nat) (Z0 : n0 ≤ h0.size) (E_b86 : Exa Z h0 b86 xs13) (F_value_b86 : Fld Z h0 b86 xs9 "value" "[B" (.ref uu7)) (F_count_b86 : Fld Z h0 b86 xs9 "count" "I" (.int n274)) (Z_S_COMPACT_STRINGS : Sta Z Z.heap xs25 xs28 "Z" (.int cs)) (O0 : Old Z n0 h0) (hcs : ¬ cs = ci0) (F_coder_b86 : Fld Z h0 b86 xs9 "coder" "B" cv0) (V_b92_112_119 : Arv Z h0 uu7 uu8 .byte ci16 l288 cv0) (d_370 : ¬ n274 = ci16) (d_371 : ¬ n274 < ci0) (d_372 : ¬ (n274 - ci0) < ci0) (d_373 : ((n274 - ci0)).toNatClampNeg ≤ 16) (d_374 : (n274 - ci0) < ci16) (d_375 : (ci0).toNatClampNeg + ((n274 - ci0)).toNatClampNeg ≤ (ci16).toNatClampNeg) (d_376 : (ci0).toNatClampNeg + ((n274 - ci0)).toNatClampNeg ≤ ((n274 - ci0)).toNatClampNeg) (d_377 : (ci0).toNatClampNeg + ((n274 - ci0)).toNatClampNeg ≤ ((own_rep (n274 - ci0) cv0) : List Value).length) :
    MetFree l xm14 (head1 (Jvm.Cond.code xm14 jdk_67_method_42_code 1 (some (.object xs25)) :: ws) xr7) (fun a U => a = #[(.ref b86)] ∧ Z.Warmed39 U.vm ∧ U.heap = h0) (fun _ _ _ _ _ => True) (fun _ U o U' => ∃ v L, o = .returned v ∧ Q_StringBuilder_toString_0 Z b86 uu7 n274 cs uu8 l288 h0 n0 v U'.heap L ∧ FrameEnd U o U' L xr7.cells xr7.slots) := by
  refine MetFree.of_bodySF (plainFor_of_name pn_6) hisR ?_
  intro p e s m args below meth c s₁ Bd hml0 hP hK
  obtain ⟨rfl, hZ, hh⟩ := hP
  have hx := Bd.exec
  have hby := Bd.bytes
  have hlk : meth.locks = false := BodyLoose.notSynchronized Bd
  have hml : c.maxLocals = 1 := hml0
  have hown : s.vm.findClass xs13 = some m.cls := findClass_of_methodNamed Bd.named
  have hnm := (name_of_methodNamed Bd.named Bd.method).1
  have X0 : Stand p l e xr7 s m #[(.ref b86)] below meth c s₁ [] 0 0 := Stand.of_body Bd
  have e0 : s₁.heap = h0 := by rw [← hh, Bd.state]; rfl
  have N0 := Fr.nil n0
  show Go p e below s (Q_StringBuilder_toString_0 Z b86 uu7 n274 cs uu8 l288 h0 n0) xr7.cells xr7.slots s₁ (entryFrame m #[(.ref b86)] 1)
  refine Go.cast (ef_StringBuilder_toString_0 m b86) ?_
  show Go p e below s _ _ _ s₁ (mkF m 0 #[vr b86] [])
  obtain ⟨T267, h267, X267, e267, E267, A267, D267, -, st267⟩ := newO X0 hx hZ hown (tw132 hw) (tw5 hw) (tw6 hw) e0 (g := (mkF m 0 #[vr b86] [])) rfl (hb hby d19_0) (by decide) (by decide)
  obtain ⟨b267, g267⟩ : ∃ z, z = h0.size := ⟨_, rfl⟩
  rw [← g267] at A267 D267 st267
  have f268 : Fld Z h267 b267 xs25 "coder" "B" cv0 := D267 (Or.inr (tw34 hw)) (ty := .byte) (by decide)
  have f269 : Fld Z h267 b267 xs25 "value" "[B" .null := D267 (Or.inr (tw36 hw)) (ty := (.array .byte)) (by decide)
  refine Go.step (fun _ k => st267 _ (XS.dup X267.here hx rfl (hb hby d19_3) rfl rfl (XS.aloadN X267.here hx rfl (hb hby d19_4) rfl rfl k))) ?_
  show Go p e below s _ _ _ T267 (mkF m 5 #[vr b86] [(.ref b86), (.ref b267), (.ref b267)])
  have g285 := Nat.le_trans Z0 (Nat.le_of_eq g267.symm)
  have ne339 : uu7 ≠ b267 := Nat.ne_of_lt (Nat.lt_of_lt_of_le V_b92_112_119.lt (Nat.le_of_eq g267.symm))
  have f369 := (O0.ext E267)
  have f378 := (Nat.le_trans Z0 E267.1)
  have f379 := (E_b86.ext E267)
  have f380 := (F_value_b86.ext E267)
  have f381 := (F_count_b86.ext E267)
  have f382 := (F_coder_b86.ext E267)
  have f383 := (V_b92_112_119.ext E267)
  obtain ⟨_, _, ⟨T384, L384, k384, n384⟩, -, X384, ⟨Lc384, hQ384, l384, y384, z384⟩, st384⟩ := X267.specialBack hx (y := xm26) rfl hown (mvT hZ (tw133 hw)) (mvT hZ (tw134 hw)) (mvT hZ (tw135 hw)) (by decide) (backOf (W := 1) (rm_String_new_2 l Z a0 hw [] b267 b86 uu7 n274 cs uu8 l288 h267 n0 f378 f379 f380 f381 Z_S_COMPACT_STRINGS f369 hcs f382 A267 f268 g285 f383 ne339 f269 d_370 d_371 d_372 d_373 d_374 d_375 d_376 d_377) hZ (tw135 hw) (tw6 hw) (by decide) (by decide)) (g := (mkF m 5 #[vr b86] [(.ref b86), (.ref b267), (.ref b267)])) rfl (by rw [hml]; rfl) (Steps.refl _) (a := b267) (argsL := [(.ref b86)]) (rest := [(.ref b267)]) (lenOf pd_20 rfl) rfl (Nat.le_of_eq rfl) (hb hby d19_5) (fun _ _ => ⟨rfl, e267, (by decide : 1 + 1 ≤ _), (by decide : 4 + 16 ≤ _)⟩)
  dsimp only [Pt.U, Pt.locs, Pt.cells, Pt.slots] at X384 l384 y384 z384 st384 hQ384
  subst l384 y384 z384
  obtain ⟨uu15, uu16, rfl, N384q, K384, P384_0, P384_1, P384_2, P384_3⟩ := hQ384
  have N385 := Fr.app N0 N384q
  refine Go.step (fun _ k => st384.trans k) ?_
  show Go p e below s _ _ _ T384 (mkF m 8 #[vr b86] [(.ref b267)])
  have z386 := Nat.le_trans (Nat.le_refl _) (Nat.le_of_eq g267.symm)
  have f387 := (((Keep.refl h0 []).ext E267).trans K384 (allS (Or.inr z386) all0))
  have f388 := (A267.keep K384)
  have f389 := (Nat.le_trans (Nat.le_refl _) E267.1)
  have z390 := Nat.le_trans f389 P384_2
  have ne391 : b267 ≠ uu15 := Nat.ne_of_lt (Nat.lt_of_lt_of_le A267.lt P384_2)
  have f392 := (Nat.le_trans (Nat.le_trans (Nat.le_refl _) E267.1) K384.1)
  exact Go.retA X384 hx hlk Bd.returns rfl rfl (hb hby d19_8) rfl ⟨b267, uu15, uu16, rfl, N385, f387, z386, f388, P384_0, P384_1, z390, P384_3, ne391⟩ (by decide) (by decide)

theorem ef_ObjectRef_toString_0 (m : MethodId) (x0 : Addr) : entryFrame m #[(.ref x0)] 1 = mkF m 0 #[vr x0] [] := by first | (simp [entryFrame, mkF, argsToLocals, Value.category]; done) | rfl
def Q_ObjectRef_toString_0 (Z : State) (b64 : Addr) (cs : Int32) (uu2 : Addr) (uu6 : Addr) (kb13_41_49_57 : ClassId) (n125 : Int32) (l126 : List Value) (uu3 : Addr) (uu17 : Addr) (kb13_41_49_61 : ClassId) (n244 : Int32) (l245 : List Value) (h0 : Heap) (n0 : Nat) (v : Option Value) (h : Heap) (L : List Loc) : Prop := ∃ (uu18 : Addr) (uu19 : Addr) (uu20 : ClassId), v = some (.ref uu18) ∧ Fr n0 L ∧ Keep h0 h [] ∧ h0.size ≤ uu18 ∧ Exa Z h uu18 xs25 ∧ Fld Z h uu18 xs25 "coder" "B" cv0 ∧ Fld Z h uu18 xs25 "value" "[B" (.ref uu19) ∧ h0.size ≤ uu19 ∧ Arv Z h uu19 uu20 .byte (((((((ci0 + (n125 >>> (ci0 &&& 31)))) + (ci1 >>> (ci0 &&& 31)))) + (n244 >>> (ci0 &&& 31)))) - ci0) (own_cp (own_rep (((((((ci0 + (n125 >>> (ci0 &&& 31)))) + (ci1 >>> (ci0 &&& 31)))) + (n244 >>> (ci0 &&& 31)))) - ci0) cv0) ci0 ((own_cp ((own_cp ((own_cp ([cv0, cv0, cv0, cv0, cv0, cv0, cv0, cv0, cv0, cv0, cv0, cv0, cv0, cv0, cv0, cv0]) (ci0 <<< (ci0 &&& 31)) l126 ci0 n125 cv0)) (((ci0 + (n125 >>> (ci0 &&& 31)))) <<< (ci0 &&& 31)) ([cv58]) ci0 ci1 cv0)) (((((ci0 + (n125 >>> (ci0 &&& 31)))) + (ci1 >>> (ci0 &&& 31)))) <<< (ci0 &&& 31)) l245 ci0 n244 cv0)) ci0 (((((((ci0 + (n125 >>> (ci0 &&& 31)))) + (ci1 >>> (ci0 &&& 31)))) + (n244 >>> (ci0 &&& 31)))) - ci0) cv0) cv0 ∧ uu18 ≠ uu19
set_option maxRecDepth 65536 in
set_option maxHeartbeats 40000000 in
theorem rm_ObjectRef_toString_0 (l : Launch) (Z : State) (a0 : Array Value) (hw : ∀ d ∈ tables_1, d.before a0 Z = true) (ws : List Jvm.Cond) (b64 : Addr) (cs : Int32) (uu2 : Addr) (uu6 : Addr) (kb13_41_49_57 : ClassId) (n125 : Int32) (l126 : List Value) (uu3 : Addr) (uu17 : Addr) (kb13_41_49_61 : ClassId) (n244 : Int32) (l245 : List Value) (h0 : Heap) (n0 : Nat) (Z0 : n0 ≤ h0.size) (Z_S_COMPACT_STRINGS : Sta Z Z.heap xs25 xs28 "Z" (.int cs)) (O0 : Old Z n0 h0) (hcs : ¬ cs = ci0) (F_type_b64 : Fld Z h0 b64 xs3 "type" xs21 (.ref uu2)) (E_b6_57 : Exa Z h0 uu2 xs25) (F_value_b6_57 : Fld Z h0 uu2 xs25 "value" "[B" (.ref uu6)) (V_b13_41_49_57 : Arv Z h0 uu6 kb13_41_49_57 .byte n125 l126 cv0) (F_coder_b6_57 : Fld Z h0 uu2 xs25 "coder" "B" cv0) (d_208 : ¬ ci0 < ((ci0 + (n125 >>> (ci0 &&& 31))) - ci16)) (d_209 : ¬ n125 < ci0) (d_210 : (ci0).toNatClampNeg + (n125).toNatClampNeg ≤ (n125).toNatClampNeg) (d_211 : ((ci0 <<< (ci0 &&& 31))).toNatClampNeg + (n125).toNatClampNeg ≤ (ci16).toNatClampNeg) (d_212 : ((ci0 <<< (ci0 &&& 31))).toNatClampNeg + (n125).toNatClampNeg ≤ ([cv0, cv0, cv0, cv0, cv0, cv0, cv0, cv0, cv0, cv0, cv0, cv0, cv0, cv0, cv0, cv0] : List Value).length) (d_228 : ¬ ci0 < (((ci0 + (n125 >>> (ci0 &&& 31))) + (ci1 >>> (ci0 &&& 31))) - ci16)) (d_229 : ¬ ((ci0 + (n125 >>> (ci0 &&& 31))) <<< (ci0 &&& 31)) < ci0) (d_230 : (((ci0 + (n125 >>> (ci0 &&& 31))) <<< (ci0 &&& 31))).toNatClampNeg + (ci1).toNatClampNeg ≤ (ci16).toNatClampNeg) (d_231 : (((ci0 + (n125 >>> (ci0 &&& 31))) <<< (ci0 &&& 31))).toNatClampNeg + (ci1).toNatClampNeg ≤ ((own_cp ([cv0, cv0, cv0, cv0, cv0, cv0, cv0, cv0, cv0, cv0, cv0, cv0, cv0, cv0, cv0, cv0]) (ci0 <<< (ci0 &&& 31)) l126 ci0 n125 cv0) : List Value).length) (F_id_b64 : Fld Z h0 b64 xs3 "id" xs21 (.ref uu3)) (E_b6_61 : Exa Z h0 uu3 xs25) (F_value_b6_61 : Fld Z h0 uu3 xs25 "value" "[B" (.ref uu17)) (V_b13_41_49_61 : Arv Z h0 uu17 kb13_41_49_61 .byte n244 l245 cv0) (F_coder_b6_61 : Fld Z h0 uu3 xs25 "coder" "B" cv0) (d_247 : ¬ ci0 < (((((ci0 + (n125 >>> (ci0 &&& 31)))) + (ci1 >>> (ci0 &&& 31))) + (n244 >>> (ci0 &&& 31))) - ci16)) (d_248 : ¬ ((((ci0 + (n125 >>> (ci0 &&& 31)))) + (ci1 >>> (ci0 &&& 31))) <<< (ci0 &&& 31)) < ci0) (d_249 : ¬ n244 < ci0) (d_250 : (ci0).toNatClampNeg + (n244).toNatClampNeg ≤ (n244).toNatClampNeg) (d_251 : (((((ci0 + (n125 >>> (ci0 &&& 31)))) + (ci1 >>> (ci0 &&& 31))) <<< (ci0 &&& 31))).toNatClampNeg + (n244).toNatClampNeg ≤ (ci16).toNatClampNeg) (d_252 : (((((ci0 + (n125 >>> (ci0 &&& 31)))) + (ci1 >>> (ci0 &&& 31))) <<< (ci0 &&& 31))).toNatClampNeg + (n244).toNatClampNeg ≤ ((own_cp ((own_cp ([cv0, cv0, cv0, cv0, cv0, cv0, cv0, cv0, cv0, cv0, cv0, cv0, cv0, cv0, cv0, cv0]) (ci0 <<< (ci0 &&& 31)) l126 ci0 n125 cv0)) (((ci0 + (n125 >>> (ci0 &&& 31)))) <<< (ci0 &&& 31)) ([cv58]) ci0 ci1 cv0) : List Value).length) (d_394 : ¬ (((((ci0 + (n125 >>> (ci0 &&& 31)))) + (ci1 >>> (ci0 &&& 31)))) + (n244 >>> (ci0 &&& 31))) = ci16) (d_395 : ¬ (((((ci0 + (n125 >>> (ci0 &&& 31)))) + (ci1 >>> (ci0 &&& 31)))) + (n244 >>> (ci0 &&& 31))) < ci0) (d_396 : ¬ ((((((ci0 + (n125 >>> (ci0 &&& 31)))) + (ci1 >>> (ci0 &&& 31)))) + (n244 >>> (ci0 &&& 31))) - ci0) < ci0) (d_397 : (((((((ci0 + (n125 >>> (ci0 &&& 31)))) + (ci1 >>> (ci0 &&& 31)))) + (n244 >>> (ci0 &&& 31))) - ci0)).toNatClampNeg ≤ 16) (d_398 : ((((((ci0 + (n125 >>> (ci0 &&& 31)))) + (ci1 >>> (ci0 &&& 31)))) + (n244 >>> (ci0 &&& 31))) - ci0) < ci16) (d_399 : (ci0).toNatClampNeg + (((((((ci0 + (n125 >>> (ci0 &&& 31)))) + (ci1 >>> (ci0 &&& 31)))) + (n244 >>> (ci0 &&& 31))) - ci0)).toNatClampNeg ≤ (ci16).toNatClampNeg) (d_400 : (ci0).toNatClampNeg + (((((((ci0 + (n125 >>> (ci0 &&& 31)))) + (ci1 >>> (ci0 &&& 31)))) + (n244 >>> (ci0 &&& 31))) - ci0)).toNatClampNeg ≤ (((((((ci0 + (n125 >>> (ci0 &&& 31)))) + (ci1 >>> (ci0 &&& 31)))) + (n244 >>> (ci0 &&& 31))) - ci0)).toNatClampNeg) (d_401 : (ci0).toNatClampNeg + (((((((ci0 + (n125 >>> (ci0 &&& 31)))) + (ci1 >>> (ci0 &&& 31)))) + (n244 >>> (ci0 &&& 31))) - ci0)).toNatClampNeg ≤ ((own_rep ((((((ci0 + (n125 >>> (ci0 &&& 31)))) + (ci1 >>> (ci0 &&& 31)))) + (n244 >>> (ci0 &&& 31))) - ci0) cv0) : List Value).length) :
    MetFree l xm21 (head1 (Jvm.Cond.code xm21 prog_36_method_2_code 1 (some (.object xs25)) :: ws) xr8) (fun a U => a = #[(.ref b64)] ∧ Z.Warmed39 U.vm ∧ U.heap = h0 ∧ CHv Z consts_1 U.vm h0) (fun _ _ _ _ _ => True) (fun _ U o U' => ∃ v L, o = .returned v ∧ Q_ObjectRef_toString_0 Z b64 cs uu2 uu6 kb13_41_49_57 n125 l126 uu3 uu17 kb13_41_49_61 n244 l245 h0 n0 v U'.heap L ∧ CHr Z consts_1 U.vm U.heap U'.vm U'.heap ∧ ReturnedEndW U o U' L xr8.cells xr8.slots) := by
  refine MetFree.of_bodySF (plainFor_of_name pn_4) hisR ?_
  intro p e s m args below meth c s₁ Bd hml0 hP hK
  obtain ⟨rfl, hZ, hh, hCH⟩ := hP
  have hx := Bd.exec
  have hby := Bd.bytes
  have hlk : meth.locks = false := BodyLoose.notSynchronized Bd
  have hml : c.maxLocals = 1 := hml0
  have hown : s.vm.findClass xs3 = some m.cls := findClass_of_methodNamed Bd.named
  have hnm := (name_of_methodNamed Bd.named Bd.method).1
  have X0 : Stand p l e xr8 (s.setVm s.vm) m #[(.ref b64)] below meth c s₁ [] 0 0 := Stand.of_body Bd
  have e0 : s₁.heap = h0 := by rw [← hh, Bd.state]; rfl
  have N0 := Fr.nil n0
  have hS0 : s.Since s.vm h0.size := (State.WarmedH.refl s).since _
  have CH0 : CHr Z consts_1 s.vm s.heap s.vm h0 := by rw [hh]; exact CHr.refl hCH
  have hZ_0 := hZ
  show GoH p e below s (((Q_ObjectRef_toString_0 Z b64 cs uu2 uu6 kb13_41_49_57 n125 l126 uu3 uu17 kb13_41_49_61 n244 l245 h0 n0, fun vm h => CHr Z consts_1 s.vm s.heap vm h) : (Option Value → Heap → List Loc → Prop) × (Vm → Heap → Prop))) xr8.cells xr8.slots s₁ (entryFrame m #[(.ref b64)] 1)
  refine GoH.cast (ef_ObjectRef_toString_0 m b64) ?_
  show GoH p e below s _ _ _ s₁ (mkF m 0 #[vr b64] [])
  obtain ⟨T86, h86, X86, e86, E86, A86, D86, -, st86⟩ := newO X0 hx hZ hown (tw61 hw) (tw62 hw) (tw63 hw) e0 (g := (mkF m 0 #[vr b64] [])) rfl (hb hby d8_0) (by decide) (by decide)
  obtain ⟨b86, g86⟩ : ∃ z, z = h0.size := ⟨_, rfl⟩
  rw [← g86] at A86 D86 st86
  have f87 : Fld Z h86 b86 xs9 "value" "[B" .null := D86 (Or.inl (tw76 hw)) (ty := (.array .byte)) (by decide)
  have f88 : Fld Z h86 b86 xs9 "coder" "B" cv0 := D86 (Or.inl (tw78 hw)) (ty := .byte) (by decide)
  have f89 : Fld Z h86 b86 xs9 "count" "I" cv0 := D86 (Or.inl (tw100 hw)) (ty := .int) (by decide)
  refine GoH.step (fun _ k => st86 _ (XS.dup X86.here hx rfl (hb hby d8_3) rfl rfl k)) ?_
  show GoH p e below s _ _ _ T86 (mkF m 4 #[vr b64] [(.ref b86), (.ref b86)])
  have g97 := Nat.le_trans Z0 (Nat.le_of_eq g86.symm)
  have f117 := (O0.ext E86)
  have f118 := (Nat.le_trans Z0 E86.1)
  obtain ⟨_, _, ⟨T119, L119, k119, n119⟩, -, X119, ⟨Lc119, hQ119, l119, y119, z119⟩, st119⟩ := X86.specialBack hx (y := xm18) rfl hown (mvT hZ (tw64 hw)) (mvT hZ (tw65 hw)) (mvT hZ (tw66 hw)) (by decide) (backOf (W := 1) (rm_StringBuilder_new_0 l Z a0 hw [] b86 cs h86 n0 f118 Z_S_COMPACT_STRINGS f117 hcs A86 f87 g97 f88 f89) hZ (tw66 hw) (tw63 hw) (by decide) (by decide)) (g := (mkF m 4 #[vr b64] [(.ref b86), (.ref b86)])) rfl (by rw [hml]; rfl) (Steps.refl _) (a := b86) (argsL := []) (rest := [(.ref b86)]) (lenOf pd_4 rfl) rfl (Nat.le_of_eq rfl) (hb hby d8_4) (fun _ _ => ⟨rfl, e86, (by decide : 1 + 1 ≤ _), (by decide : 4 + 16 ≤ _)⟩)
  dsimp only [Pt.U, Pt.locs, Pt.cells, Pt.slots] at X119 l119 y119 z119 st119 hQ119
  subst l119 y119 z119
  obtain ⟨uu7, uu8, rfl, N119q, K119, P119_0, P119_1, P119_2, P119_3, P119_4⟩ := hQ119
  have N120 := Fr.app N0 N119q
  refine GoH.step (fun _ k => st119.trans (XS.aloadN X119.here hx rfl (hb hby d8_7) rfl rfl k)) ?_
  show GoH p e below s _ _ _ T119 (mkF m 8 #[vr b64] [(.ref b64), (.ref b86)])
  have ne121 : b64 ≠ b86 := Nat.ne_of_lt (Nat.lt_of_lt_of_le F_type_b64.lt (Nat.le_of_eq g86.symm))
  have f122 := ((F_type_b64.ext E86).keep K119 (ninS ne121 nin0))
  obtain ⟨T123, X123, e123, st123⟩ := getF X119 hx hZ hown (host := "") (Or.inl (tw52 hw)) Via.refl rfl f122 (g := (mkF m 8 #[vr b64] [(.ref b64), (.ref b86)])) rfl rfl (hb hby d8_8)
  refine GoH.step (fun _ k => st123 _ k) ?_
  show GoH p e below s _ _ _ T123 (mkF m 11 #[vr b64] [(.ref uu2), (.ref b86)])
  have g160 := Nat.le_trans f118 P119_3
  have ne185 : b86 ≠ uu7 := Nat.ne_of_lt (Nat.lt_of_lt_of_le A86.lt P119_3)
  have f207 := (f117.keep K119 (allS g97 all0))
  have f213 := (Nat.le_trans f118 K119.1)
  have f214 := ((E_b6_57.ext E86).keep K119)
  have ne215 : uu2 ≠ b86 := Nat.ne_of_lt (Nat.lt_of_lt_of_le E_b6_57.lt (Nat.le_of_eq g86.symm))
  have f216 := ((F_value_b6_57.ext E86).keep K119 (ninS ne215 nin0))
  have ne217 : uu6 ≠ b86 := Nat.ne_of_lt (Nat.lt_of_lt_of_le V_b13_41_49_57.lt (Nat.le_of_eq g86.symm))
  have f218 := ((V_b13_41_49_57.ext E86).keep K119 (ninS ne217 nin0))
  have f219 := ((F_coder_b6_57.ext E86).keep K119 (ninS ne215 nin0))
  have f220 := (A86.keep K119)
  obtain ⟨cq221, kq221, q221a, q221b, q221c⟩ := isOf hZ e123 f220
  obtain ⟨_, _, ⟨T221, L221, k221, n221⟩, -, X221, ⟨Lc221, hQ221, l221, y221, z221⟩, st221⟩ := X123.virtualBack hx (y := xm28) (z := xm28) hown (mvT hZ (tw79 hw)) (mvT hZ (tw80 hw)) (notFace_of_selects (args := #[]) (mvT hZ (tw82 hw))) (mvT hZ (tw82 hw)) (mvT hZ (tw81 hw)) (by decide) (backOf (W := 0) (rm_StringBuilder_append_0 l Z a0 hw [] b86 uu2 uu6 kb13_41_49_57 n125 l126 cs ci0 uu7 uu8 ([cv0, cv0, cv0, cv0, cv0, cv0, cv0, cv0, cv0, cv0, cv0, cv0, cv0, cv0, cv0, cv0]) T119.heap n0 f213 f214 f216 f218 Z_S_COMPACT_STRINGS f207 hcs f219 P119_2 P119_0 P119_4 P119_1 f220 g160 ne185 g97 d_208 (by decide) d_209 d_210 d_211 d_212) hZ (tw83 hw) (tw63 hw) (by decide) (by decide)) q221a q221c (g := (mkF m 11 #[vr b64] [(.ref uu2), (.ref b86)])) rfl (by rw [hml]; rfl) (Steps.refl _) (argsL := [(.ref uu2)]) (rest := []) (lenOf pd_13 rfl) rfl (Nat.le_of_eq rfl) (hb hby d8_11) (fun _ _ => ⟨rfl, e123, (by decide : 2 + 0 ≤ _), (by decide : 20 + 0 ≤ _)⟩)
  dsimp only [Pt.U, Pt.locs, Pt.cells, Pt.slots] at X221 l221 y221 z221 st221 hQ221
  subst l221 y221 z221
  obtain ⟨rfl, N221q, K221, P221_0, P221_1, P221_2, P221_3⟩ := hQ221
  have N222 := Fr.app N120 N221q
  refine GoH.step (fun _ k => st221.trans k) ?_
  show GoH p e below s _ _ _ T221 (mkF m 14 #[vr b64] [(.ref b86)])
  have f224 := (Nat.le_trans (Nat.le_trans (Nat.le_trans (Nat.le_refl _) E86.1) K119.1) K221.1)
  have f225 := (own_chK (own_chK (own_chE CH0 E86) K119 (sfS (Safe.exa hZ_0.alike A86 (by decide) (by decide)) sf0)) K221 (sfS (own_safeL hZ_0 (own_Nots hw _ (by decide)) P119_4) (sfS (Safe.exa hZ_0.alike f220 (by decide) (by decide)) sf0)))
  obtain ⟨a223, T223, h223, k223, b223, kb223, X223, e223, E223, hS223, hk223, hZ223, hown223, A223, C223, D223, V223, -, -, ch223, -, sf223, st223⟩ := ldcCH X221 hx hZ hown (tw126 hw) (own_wS hw) rfl hS0 f224 (own_EW hw) (List.mem_of_getElem? (i := 0) rfl) f225.1 (vs := [cv58]) (z := ci1) ⟨by decide, rfl⟩ (by decide) rfl (g := (mkF m 14 #[vr b64] [(.ref b86)])) rfl (hb hby d8_14) (n := 4) (by decide) (by decide) (by decide) (by decide)
  have f226 := f225.trans ch223
  refine GoH.step (fun _ k => st223 _ k) ?_
  show GoH p e below s _ _ _ T223 (mkF m 16 #[vr b64] [(.ref a223), (.ref b86)])
  have f227 := ((f207.keep K221 (allS g160 (allS g97 all0))).ext E223)
  have f232 := (Nat.le_trans (Nat.le_trans f213 K221.1) E223.1)
  have f233 := (P221_1.ext E223)
  have f234 := (P221_2.ext E223)
  have f235 := (P221_0.ext E223)
  have f236 := (P221_3.ext E223)
  have f237 := ((f220.keep K221).ext E223)
  obtain ⟨cq238, kq238, q238a, q238b, q238c⟩ := isOf hZ223 e223 f237
  obtain ⟨_, _, ⟨T238, L238, k238, n238⟩, -, X238, ⟨Lc238, hQ238, l238, y238, z238⟩, st238⟩ := X223.virtualBack hx (y := xm28) (z := xm28) hown223 (mvT hZ223 (tw79 hw)) (mvT hZ223 (tw80 hw)) (notFace_of_selects (args := #[]) (mvT hZ223 (tw82 hw))) (mvT hZ223 (tw82 hw)) (mvT hZ223 (tw81 hw)) (by decide) (backOf (W := 0) (rm_StringBuilder_append_0 l Z a0 hw [] b86 a223 b223 kb223 ci1 ([cv58]) cs ((ci0 + (n125 >>> (ci0 &&& 31)))) uu7 uu8 ((own_cp ([cv0, cv0, cv0, cv0, cv0, cv0, cv0, cv0, cv0, cv0, cv0, cv0, cv0, cv0, cv0, cv0]) (ci0 <<< (ci0 &&& 31)) l126 ci0 n125 cv0)) h223 n0 f232 A223 D223 V223 Z_S_COMPACT_STRINGS f227 hcs C223 f233 f234 f235 f236 f237 g160 ne185 g97 d_228 d_229 (by decide) (Nat.le_of_ble_eq_true rfl) d_230 d_231) hZ223 (tw83 hw) (tw63 hw) (by decide) (by decide)) q238a q238c (g := (mkF m 16 #[vr b64] [(.ref a223), (.ref b86)])) rfl (by rw [hml]; rfl) (Steps.refl _) (argsL := [(.ref a223)]) (rest := []) (lenOf pd_13 rfl) rfl (Nat.le_of_eq rfl) (hb hby d8_16) (fun _ _ => ⟨rfl, e223, (by decide : 4 + 0 ≤ _), (by decide : 28 + 0 ≤ _)⟩)
  dsimp only [Pt.U, Pt.locs, Pt.cells, Pt.slots] at X238 l238 y238 z238 st238 hQ238
  subst l238 y238 z238
  obtain ⟨rfl, N238q, K238, P238_0, P238_1, P238_2, P238_3⟩ := hQ238
  have N239 := Fr.app N222 N238q
  refine GoH.step (fun _ k => st238.trans (XS.aloadN X238.here hx rfl (hb hby d8_19) rfl rfl k)) ?_
  show GoH p e below s _ _ _ T238 (mkF m 20 #[vr b64] [(.ref b64), (.ref b86)])
  have f240 := (F_type_b64.ext E86)
  have ne241 : b64 ≠ uu7 := Nat.ne_of_lt (Nat.lt_of_lt_of_le f240.lt P119_3)
  have f242 := (((((F_id_b64.ext E86).keep K119 (ninS ne121 nin0)).keep K221 (ninS ne241 (ninS ne121 nin0))).ext E223).keep K238 (ninS ne241 (ninS ne121 nin0)))
  obtain ⟨T243, X243, e243, st243⟩ := getF X238 hx hZ223 hown223 (host := "") (Or.inl (tw54 hw)) Via.refl rfl f242 (g := (mkF m 20 #[vr b64] [(.ref b64), (.ref b86)])) rfl rfl (hb hby d8_20)
  refine GoH.step (fun _ k => st243 _ k) ?_
  show GoH p e below s _ _ _ T243 (mkF m 23 #[vr b64] [(.ref uu3), (.ref b86)])
  have f246 := (f227.keep K238 (allS g160 (allS g97 all0)))
  have f253 := (Nat.le_trans f232 K238.1)
  have f254 := (((((E_b6_61.ext E86).keep K119).keep K221).ext E223).keep K238)
  have ne255 : uu3 ≠ b86 := Nat.ne_of_lt (Nat.lt_of_lt_of_le E_b6_61.lt (Nat.le_of_eq g86.symm))
  have f256 := (E_b6_61.ext E86)
  have ne257 : uu3 ≠ uu7 := Nat.ne_of_lt (Nat.lt_of_lt_of_le f256.lt P119_3)
  have f258 := (((((F_value_b6_61.ext E86).keep K119 (ninS ne255 nin0)).keep K221 (ninS ne257 (ninS ne255 nin0))).ext E223).keep K238 (ninS ne257 (ninS ne255 nin0)))
  have ne259 : uu17 ≠ b86 := Nat.ne_of_lt (Nat.lt_of_lt_of_le V_b13_41_49_61.lt (Nat.le_of_eq g86.symm))
  have f260 := (V_b13_41_49_61.ext E86)
  have ne261 : uu17 ≠ uu7 := Nat.ne_of_lt (Nat.lt_of_lt_of_le f260.lt P119_3)
  have f262 := (((((V_b13_41_49_61.ext E86).keep K119 (ninS ne259 nin0)).keep K221 (ninS ne261 (ninS ne259 nin0))).ext E223).keep K238 (ninS ne261 (ninS ne259 nin0)))
  have f263 := (((((F_coder_b6_61.ext E86).keep K119 (ninS ne255 nin0)).keep K221 (ninS ne257 (ninS ne255 nin0))).ext E223).keep K238 (ninS ne257 (ninS ne255 nin0)))
  have f264 := (f237.keep K238)
  obtain ⟨cq265, kq265, q265a, q265b, q265c⟩ := isOf hZ223 e243 f264
  obtain ⟨_, _, ⟨T265, L265, k265, n265⟩, -, X265, ⟨Lc265, hQ265, l265, y265, z265⟩, st265⟩ := X243.virtualBack hx (y := xm28) (z := xm28) hown223 (mvT hZ223 (tw79 hw)) (mvT hZ223 (tw80 hw)) (notFace_of_selects (args := #[]) (mvT hZ223 (tw82 hw))) (mvT hZ223 (tw82 hw)) (mvT hZ223 (tw81 hw)) (by decide) (backOf (W := 0) (rm_StringBuilder_append_0 l Z a0 hw [] b86 uu3 uu17 kb13_41_49_61 n244 l245 cs ((((ci0 + (n125 >>> (ci0 &&& 31)))) + (ci1 >>> (ci0 &&& 31)))) uu7 uu8 ((own_cp ((own_cp ([cv0, cv0, cv0, cv0, cv0, cv0, cv0, cv0, cv0, cv0, cv0, cv0, cv0, cv0, cv0, cv0]) (ci0 <<< (ci0 &&& 31)) l126 ci0 n125 cv0)) (((ci0 + (n125 >>> (ci0 &&& 31)))) <<< (ci0 &&& 31)) ([cv58]) ci0 ci1 cv0)) T238.heap n0 f253 f254 f258 f262 Z_S_COMPACT_STRINGS f246 hcs f263 P238_1 P238_2 P238_0 P238_3 f264 g160 ne185 g97 d_247 d_248 d_249 d_250 d_251 d_252) hZ223 (tw83 hw) (tw63 hw) (by decide) (by decide)) q265a q265c (g := (mkF m 23 #[vr b64] [(.ref uu3), (.ref b86)])) rfl (by rw [hml]; rfl) (Steps.refl _) (argsL := [(.ref uu3)]) (rest := []) (lenOf pd_13 rfl) rfl (Nat.le_of_eq rfl) (hb hby d8_23) (fun _ _ => ⟨rfl, e243, (by decide : 4 + 0 ≤ _), (by decide : 28 + 0 ≤ _)⟩)
  dsimp only [Pt.U, Pt.locs, Pt.cells, Pt.slots] at X265 l265 y265 z265 st265 hQ265
  subst l265 y265 z265
  obtain ⟨rfl, N265q, K265, P265_0, P265_1, P265_2, P265_3⟩ := hQ265
  have N266 := Fr.app N239 N265q
  refine GoH.step (fun _ k => st265.trans k) ?_
  show GoH p e below s _ _ _ T265 (mkF m 26 #[vr b64] [(.ref b86)])
  have f393 := (f246.keep K265 (allS g160 (allS g97 all0)))
  have f402 := (Nat.le_trans f253 K265.1)
  have f403 := (f264.keep K265)
  obtain ⟨cq404, kq404, q404a, q404b, q404c⟩ := isOf hZ223 rfl f403
  obtain ⟨_, _, ⟨T404, L404, k404, n404⟩, -, X404, ⟨Lc404, hQ404, l404, y404, z404⟩, st404⟩ := X265.virtualBack hx (y := xm14) (z := xm14) hown223 (mvT hZ223 (tw127 hw)) (mvT hZ223 (tw128 hw)) (notFace_of_selects (args := #[]) (mvT hZ223 (tw130 hw))) (mvT hZ223 (tw130 hw)) (mvT hZ223 (tw129 hw)) (by decide) (backOf (W := 0) (rm_StringBuilder_toString_0 l Z a0 hw [] b86 uu7 ((((((ci0 + (n125 >>> (ci0 &&& 31)))) + (ci1 >>> (ci0 &&& 31)))) + (n244 >>> (ci0 &&& 31)))) cs uu8 ((own_cp ((own_cp ((own_cp ([cv0, cv0, cv0, cv0, cv0, cv0, cv0, cv0, cv0, cv0, cv0, cv0, cv0, cv0, cv0, cv0]) (ci0 <<< (ci0 &&& 31)) l126 ci0 n125 cv0)) (((ci0 + (n125 >>> (ci0 &&& 31)))) <<< (ci0 &&& 31)) ([cv58]) ci0 ci1 cv0)) (((((ci0 + (n125 >>> (ci0 &&& 31)))) + (ci1 >>> (ci0 &&& 31)))) <<< (ci0 &&& 31)) l245 ci0 n244 cv0)) T265.heap n0 f402 f403 P265_2 P265_1 Z_S_COMPACT_STRINGS f393 hcs P265_3 P265_0 d_394 d_395 d_396 d_397 d_398 d_399 d_400 d_401) hZ223 (tw131 hw) (tw63 hw) (by decide) (by decide)) q404a q404c (g := (mkF m 26 #[vr b64] [(.ref b86)])) rfl (by rw [hml]; rfl) (Steps.refl _) (argsL := []) (rest := []) (lenOf pd_21 rfl) rfl (Nat.le_of_eq rfl) (hb hby d8_26) (fun _ _ => ⟨rfl, rfl, (by decide : 4 + 2 ≤ _), (by decide : 28 + 20 ≤ _)⟩)
  dsimp only [Pt.U, Pt.locs, Pt.cells, Pt.slots] at X404 l404 y404 z404 st404 hQ404
  subst l404 y404 z404
  obtain ⟨uu18, uu19, uu20, rfl, N404q, K404, P404_0, P404_1, P404_2, P404_3, P404_4, P404_5, P404_6⟩ := hQ404
  have N405 := Fr.app N266 N404q
  refine GoH.step (fun _ k => st404.trans k) ?_
  show GoH p e below s _ _ _ T404 (mkF m 29 #[vr b64] [(.ref uu18)])
  have z406 := Nat.le_trans (Nat.le_refl _) (Nat.le_of_eq g86.symm)
  have f407 := (Nat.le_trans (Nat.le_refl _) E86.1)
  have z408 := Nat.le_trans f407 P119_3
  have f409 := ((((((((Keep.refl h0 []).ext E86).trans K119 (allS (Or.inr z406) all0)).trans K221 (allS (Or.inr z408) (allS (Or.inr z406) all0))).ext E223).trans K238 (allS (Or.inr z408) (allS (Or.inr z406) all0))).trans K265 (allS (Or.inr z408) (allS (Or.inr z406) all0))).trans K404 all0)
  have f410 := (Nat.le_trans (Nat.le_trans (Nat.le_trans (Nat.le_trans (Nat.le_trans f407 K119.1) K221.1) E223.1) K238.1) K265.1)
  have z411 := Nat.le_trans f410 P404_0
  have z412 := Nat.le_trans f410 P404_4
  have f413 := (Nat.le_trans (Nat.le_trans (Nat.le_trans hk223 K238.1) K265.1) K404.1)
  have f414 := (own_chK (own_chK (own_chK f226 K238 (sfS (own_safeL hZ223 (own_Nots hw _ (by decide)) f235) (sfS (Safe.exa hZ223.alike f237 (by decide) (by decide)) sf0))) K265 (sfS (own_safeL hZ223 (own_Nots hw _ (by decide)) P238_0) (sfS (Safe.exa hZ223.alike f264 (by decide) (by decide)) sf0))) K404 sf0)
  exact GoH.retA X404 hS223 hx hlk Bd.returns rfl rfl (hb hby d8_29) rfl f413 ⟨uu18, uu19, uu20, rfl, N405, f409, z411, P404_1, P404_2, P404_3, z412, P404_5, P404_6⟩ (f414.trans (CHv.at X404 hZ223 (own_EW hw) f414.1)) (by decide) (by decide)

theorem ef_String_isLatin1_0 (m : MethodId) (x0 : Addr) : entryFrame m #[(.ref x0)] 1 = mkF m 0 #[vr x0] [] := by first | (simp [entryFrame, mkF, argsToLocals, Value.category]; done) | rfl
def Q_String_isLatin1_0 (Z : State) (uu21 : Addr) (cs : Int32) (h0 : Heap) (n0 : Nat) (v : Option Value) (h : Heap) (L : List Loc) : Prop := v = some cv1 ∧ Fr n0 L ∧ h = h0
set_option maxRecDepth 65536 in
set_option maxHeartbeats 40000000 in
theorem rm_String_isLatin1_0 (l : Launch) (Z : State) (a0 : Array Value) (hw : ∀ d ∈ tables_1, d.before a0 Z = true) (ws : List Jvm.Cond) (uu21 : Addr) (cs : Int32) (h0 : Heap) (n0 : Nat) (Z0 : n0 ≤ h0.size) (Z_S_COMPACT_STRINGS : Sta Z Z.heap xs25 xs28 "Z" (.int cs)) (O0 : Old Z n0 h0) (hcs : ¬ cs = ci0) (F_coder_b267_404_431 : Fld Z h0 uu21 xs25 "coder" "B" cv0) :
    MetFree l xm10 (head1 (Jvm.Cond.code xm10 jdk_42_method_154_code 1 (some .boolean) :: ws) xr34) (fun a U => a = #[(.ref uu21)] ∧ Z.Warmed39 U.vm ∧ U.heap = h0) (fun _ _ _ _ _ => True) (fun _ U o U' => ∃ v L, o = .returned v ∧ Q_String_isLatin1_0 Z uu21 cs h0 n0 v U'.heap L ∧ FrameEnd U o U' L xr34.cells xr34.slots) := by
  refine MetFree.of_bodySF (plainFor_of_name pn_1) hisR ?_
  intro p e s m args below meth c s₁ Bd hml0 hP hK
  obtain ⟨rfl, hZ, hh⟩ := hP
  have hx := Bd.exec
  have hby := Bd.bytes
  have hlk : meth.locks = false := BodyLoose.notSynchronized Bd
  have hml : c.maxLocals = 1 := hml0
  have hown : s.vm.findClass xs25 = some m.cls := findClass_of_methodNamed Bd.named
  have hnm := (name_of_methodNamed Bd.named Bd.method).1
  have X0 : Stand p l e xr34 s m #[(.ref uu21)] below meth c s₁ [] 0 0 := Stand.of_body Bd
  have e0 : s₁.heap = h0 := by rw [← hh, Bd.state]; rfl
  have N0 := Fr.nil n0
  show Go p e below s (Q_String_isLatin1_0 Z uu21 cs h0 n0) xr34.cells xr34.slots s₁ (entryFrame m #[(.ref uu21)] 1)
  refine Go.cast (ef_String_isLatin1_0 m uu21) ?_
  show Go p e below s _ _ _ s₁ (mkF m 0 #[vr uu21] [])
  obtain ⟨T448, X448, e448, st448⟩ := getS2 X0 hx hZ hown (host := "") (Or.inl (tw21 hw)) Via.refl e0 (Z_S_COMPACT_STRINGS.ext O0.2) (g := (mkF m 0 #[vr uu21] [])) rfl (hb hby d32_0)
  refine Go.step (fun _ k => st448 _ (XS.ifNo X448.here hx rfl (hb hby d32_3) rfl ((if0 _ _).trans (feq hcs).1) (XS.aloadN X448.here hx rfl (hb hby d32_6) rfl rfl k))) ?_
  show Go p e below s _ _ _ T448 (mkF m 7 #[vr uu21] [(.ref uu21)])
  obtain ⟨T449, X449, e449, st449⟩ := getF X448 hx hZ hown (host := "") (Or.inl (tw33 hw)) Via.refl e448 F_coder_b267_404_431 (g := (mkF m 7 #[vr uu21] [(.ref uu21)])) rfl rfl (hb hby d32_7)
  refine Go.step (fun _ k => st449 _ (XS.ifNo X449.here hx rfl (hb hby d32_10) rfl ((if0 _ _).trans (teq (by decide)).2) (XS.iconst X449.here hx rfl (hb hby d32_13) (XS.goto X449.here hx rfl (pc0 := 14) (pc' := 18) rfl (hb hby d32_14) (by decide) (by decide) k)))) ?_
  show Go p e below s _ _ _ T449 (mkF m 18 #[vr uu21] [cv1])
  exact Go.retN X449 hx hlk (t := .boolean) Bd.returns (by simp) (hb hby d32_18) e449 ⟨rfl, N0, rfl⟩ (by decide) (by decide)

theorem ef_StringLatin1_charAt_0 (m : MethodId) (x0 : Addr) (x1 : Int32) : entryFrame m #[(.ref x0), (.int x1)] 2 = mkF m 0 #[vr x0, vi x1] [] := by first | (simp [entryFrame, mkF, argsToLocals, Value.category]; done) | rfl
def Q_StringLatin1_charAt_0 (Z : State) (uu22 : Addr) (n442 : Int32) (uu23 : ClassId) (n453 : Int32) (l454 : List Value) (fv : Value) (x460 : Int32) (h0 : Heap) (n0 : Nat) (v : Option Value) (h : Heap) (L : List Loc) : Prop := v = some (.int (nar .char ((x460 &&& ci255).toUInt32.toUInt16.toUInt32.toInt32))) ∧ Fr n0 L ∧ h = h0
set_option maxRecDepth 65536 in
set_option maxHeartbeats 40000000 in
theorem rm_StringLatin1_charAt_0 (l : Launch) (Z : State) (a0 : Array Value) (hw : ∀ d ∈ tables_1, d.before a0 Z = true) (ws : List Jvm.Cond) (uu22 : Addr) (n442 : Int32) (uu23 : ClassId) (n453 : Int32) (l454 : List Value) (fv : Value) (x460 : Int32) (h0 : Heap) (n0 : Nat) (Z0 : n0 ≤ h0.size) (V_b297_325_341_364_384_404_431 : Arv Z h0 uu22 uu23 .byte n453 l454 cv0) (Z_S_SIOOBE_FORMATTER : Sta Z Z.heap xs7 xs24 xs8 fv) (hfv : fv.isRef = true) (d_456 : ¬ n442 < ci0) (d_457 : n442 < n453) (O0 : Old Z n0 h0) (pk_465 : (l454 : List Value).getD (n442).toNatClampNeg cv0 = .int x460) :
    MetFree l xm7 (head1 (Jvm.Cond.code xm7 jdk_43_method_2_code 2 (some .char) :: ws) xr20) (fun a U => a = #[(.ref uu22), (.int n442)] ∧ Z.Warmed39 U.vm ∧ U.heap = h0) (fun _ _ _ _ _ => True) (fun _ U o U' => ∃ v L, o = .returned v ∧ Q_StringLatin1_charAt_0 Z uu22 n442 uu23 n453 l454 fv x460 h0 n0 v U'.heap L ∧ FrameEnd U o U' L xr20.cells xr20.slots) := by
  refine MetFree.of_bodySF (plainFor_of_name pn_8) hisR ?_
  intro p e s m args below meth c s₁ Bd hml0 hP hK
  obtain ⟨rfl, hZ, hh⟩ := hP
  have hx := Bd.exec
  have hby := Bd.bytes
  have hlk : meth.locks = false := BodyLoose.notSynchronized Bd
  have hml : c.maxLocals = 2 := hml0
  have hown : s.vm.findClass xs17 = some m.cls := findClass_of_methodNamed Bd.named
  have hnm := (name_of_methodNamed Bd.named Bd.method).1
  have X0 : Stand p l e xr20 s m #[(.ref uu22), (.int n442)] below meth c s₁ [] 0 0 := Stand.of_body Bd
  have e0 : s₁.heap = h0 := by rw [← hh, Bd.state]; rfl
  have N0 := Fr.nil n0
  show Go p e below s (Q_StringLatin1_charAt_0 Z uu22 n442 uu23 n453 l454 fv x460 h0 n0) xr20.cells xr20.slots s₁ (entryFrame m #[(.ref uu22), (.int n442)] 2)
  refine Go.cast (ef_StringLatin1_charAt_0 m uu22 n442) ?_
  show Go p e below s _ _ _ s₁ (mkF m 0 #[vr uu22, vi n442] [])
  refine Go.step (fun _ k => XS.iloadN X0.here hx rfl (hb hby d33_0) rfl (XS.aloadN X0.here hx rfl (hb hby d33_1) rfl rfl k)) ?_
  show Go p e below s _ _ _ s₁ (mkF m 2 #[vr uu22, vi n442] [(.ref uu22), (.int n442)])
  obtain ⟨cl455, Ar455, -, Sz455, Ng455, -, -⟩ := id V_b297_325_341_364_384_404_431
  have aln455 := X0.arraylength hx (by rw [e0]; exact Ar455.1) (State.isArrayOf_alike hZ.alike Ar455.2.1) (g := (mkF m 2 #[vr uu22, vi n442] [(.ref uu22), (.int n442)])) rfl rfl (hb hby d33_2)
  rw [len_of Sz455 Ng455] at aln455
  refine Go.step (fun _ k => aln455 _ k) ?_
  show Go p e below s _ _ _ s₁ (mkF m 3 #[vr uu22, vi n442] [(.int n453), (.int n442)])
  obtain ⟨_, _, ⟨T458, L458, k458, n458⟩, -, X458, ⟨Lc458, hQ458, l458, y458, z458⟩, st458⟩ := Jvm.LawKit.callS X0 hx (y := xm4) hown (mvT hZ (tw190 hw)) (mvT hZ (tw191 hw)) (mvT hZ (tw6 hw)) (mvT hZ (tw192 hw)) (by decide) (backOf (W := 0) (rm_schk l Z a0 hw [] n442 n453 fv h0 n0 Z0 O0 Z_S_SIOOBE_FORMATTER hfv d_456 d_457) hZ (tw192 hw) (tw6 hw) (by decide) (by decide)) (g := (mkF m 3 #[vr uu22, vi n442] [(.int n453), (.int n442)])) rfl (by rw [hml]; rfl) (argsL := [(.int n442), (.int n453)]) (rest := []) (lenOf pd_16 rfl) rfl (Nat.le_of_eq rfl) (hb hby d33_3) (fun _ _ => ⟨rfl, e0, (by decide : 0 + 0 ≤ _), (by decide : 0 + 0 ≤ _)⟩)
  dsimp only [Pt.U, Pt.locs, Pt.cells, Pt.slots] at X458 l458 y458 z458 st458 hQ458
  subst l458 y458 z458
  obtain ⟨rfl, N458q, eq458⟩ := hQ458
  have N459 := Fr.app N0 N458q
  refine Go.step (fun _ k => st458 _ (XS.aloadN X458.here hx rfl (hb hby d33_6) rfl rfl (XS.iloadN X458.here hx rfl (hb hby d33_7) rfl k))) ?_
  show Go p e below s _ _ _ T458 (mkF m 8 #[vr uu22, vi n442] [(.int n442), (.ref uu22)])
  obtain ⟨cl466, Ar466, -, Sz466, Ng466, Hs466, Ft466⟩ := id V_b297_325_341_364_384_404_431
  have in466 : ¬ (n442 < 0 ∨ cl466.slots.size ≤ (n442).toNatClampNeg) := inb_of Sz466 ⟨d_456, d_457⟩
  have at466 : cl466.slots[(n442).toNatClampNeg]? = some (.int x460) := Hs466.at in466 pk_465
  refine Go.step (fun _ k => X458.baloadBytes hx (j := n442) (v := (.int x460)) (by rw [eq458]; exact Ar466.1) (State.isArrayOf_alike hZ.alike Ar466.2.1) Ar466.2.2 in466 at466 (g := (mkF m 8 #[vr uu22, vi n442] [(.int n442), (.ref uu22)])) rfl rfl (hb hby d33_8) _ (XS.sipush X458.here hx rfl (hb hby d33_9) (XS.iand X458.here hx rfl (hb hby d33_12) rfl (XS.i2c X458.here hx rfl (hb hby d33_13) rfl k)))) ?_
  show Go p e below s _ _ _ T458 (mkF m 14 #[vr uu22, vi n442] [(.int ((x460 &&& ci255).toUInt32.toUInt16.toUInt32.toInt32))])
  exact Go.retN X458 hx hlk (t := .char) Bd.returns (by simp) (hb hby d33_14) eq458 ⟨rfl, N459, rfl⟩ (by decide) (by decide)

theorem ef_String_charAt_0 (m : MethodId) (x0 : Addr) (x1 : Int32) : entryFrame m #[(.ref x0), (.int x1)] 2 = mkF m 0 #[vr x0, vi x1] [] := by first | (simp [entryFrame, mkF, argsToLocals, Value.category]; done) | rfl
def Q_String_charAt_0 (Z : State) (uu21 : Addr) (n442 : Int32) (cs : Int32) (uu22 : Addr) (uu23 : ClassId) (n453 : Int32) (l454 : List Value) (fv : Value) (x461 : Int32) (h0 : Heap) (n0 : Nat) (v : Option Value) (h : Heap) (L : List Loc) : Prop := v = some (.int (nar .char (nar .char ((x461 &&& ci255).toUInt32.toUInt16.toUInt32.toInt32)))) ∧ Fr n0 L ∧ h = h0
set_option maxRecDepth 65536 in
set_option maxHeartbeats 40000000 in
theorem rm_String_charAt_0 (l : Launch) (Z : State) (a0 : Array Value) (hw : ∀ d ∈ tables_1, d.before a0 Z = true) (ws : List Jvm.Cond) (uu21 : Addr) (n442 : Int32) (cs : Int32) (uu22 : Addr) (uu23 : ClassId) (n453 : Int32) (l454 : List Value) (fv : Value) (x461 : Int32) (h0 : Heap) (n0 : Nat) (Z0 : n0 ≤ h0.size) (E_b267_404_431 : Exa Z h0 uu21 xs25) (Z_S_COMPACT_STRINGS : Sta Z Z.heap xs25 xs28 "Z" (.int cs)) (O0 : Old Z n0 h0) (hcs : ¬ cs = ci0) (F_coder_b267_404_431 : Fld Z h0 uu21 xs25 "coder" "B" cv0) (F_value_b267_404_431 : Fld Z h0 uu21 xs25 "value" "[B" (.ref uu22)) (V_b297_325_341_364_384_404_431 : Arv Z h0 uu22 uu23 .byte n453 l454 cv0) (Z_S_SIOOBE_FORMATTER : Sta Z Z.heap xs7 xs24 xs8 fv) (hfv : fv.isRef = true) (pk_464 : (l454 : List Value).getD (n442).toNatClampNeg cv0 = .int x461) (d_467 : ¬ n442 < ci0) (d_468 : n442 < n453) :
    MetFree l xm15 (head1 (Jvm.Cond.code xm15 jdk_42_method_56_code 2 (some .char) :: ws) xr21) (fun a U => a = #[(.ref uu21), (.int n442)] ∧ Z.Warmed39 U.vm ∧ U.heap = h0) (fun _ _ _ _ _ => True) (fun _ U o U' => ∃ v L, o = .returned v ∧ Q_String_charAt_0 Z uu21 n442 cs uu22 uu23 n453 l454 fv x461 h0 n0 v U'.heap L ∧ FrameEnd U o U' L xr21.cells xr21.slots) := by
  refine MetFree.of_bodySF (plainFor_of_name pn_1) hisR ?_
  intro p e s m args below meth c s₁ Bd hml0 hP hK
  obtain ⟨rfl, hZ, hh⟩ := hP
  have hx := Bd.exec
  have hby := Bd.bytes
  have hlk : meth.locks = false := BodyLoose.notSynchronized Bd
  have hml : c.maxLocals = 2 := hml0
  have hown : s.vm.findClass xs25 = some m.cls := findClass_of_methodNamed Bd.named
  have hnm := (name_of_methodNamed Bd.named Bd.method).1
  have X0 : Stand p l e xr21 s m #[(.ref uu21), (.int n442)] below meth c s₁ [] 0 0 := Stand.of_body Bd
  have e0 : s₁.heap = h0 := by rw [← hh, Bd.state]; rfl
  have N0 := Fr.nil n0
  show Go p e below s (Q_String_charAt_0 Z uu21 n442 cs uu22 uu23 n453 l454 fv x461 h0 n0) xr21.cells xr21.slots s₁ (entryFrame m #[(.ref uu21), (.int n442)] 2)
  refine Go.cast (ef_String_charAt_0 m uu21 n442) ?_
  show Go p e below s _ _ _ s₁ (mkF m 0 #[vr uu21, vi n442] [])
  refine Go.step (fun _ k => XS.aloadN X0.here hx rfl (hb hby d31_0) rfl rfl k) ?_
  show Go p e below s _ _ _ s₁ (mkF m 1 #[vr uu21, vi n442] [(.ref uu21)])
  obtain ⟨cq450, kq450, q450a, q450b, q450c⟩ := isOf hZ e0 E_b267_404_431
  obtain ⟨_, _, ⟨T450, L450, k450, n450⟩, -, X450, ⟨Lc450, hQ450, l450, y450, z450⟩, st450⟩ := X0.virtualBack hx (y := xm10) (z := xm10) hown (mvT hZ (tw181 hw)) (mvT hZ (tw182 hw)) (notFace_of_selects (args := #[]) (mvT hZ (tw184 hw))) (mvT hZ (tw184 hw)) (mvT hZ (tw183 hw)) (by decide) (backOf (W := 0) (rm_String_isLatin1_0 l Z a0 hw [] uu21 cs h0 n0 Z0 Z_S_COMPACT_STRINGS O0 hcs F_coder_b267_404_431) hZ (tw185 hw) (tw6 hw) (by decide) (by decide)) q450a q450c (g := (mkF m 1 #[vr uu21, vi n442] [(.ref uu21)])) rfl (by rw [hml]; rfl) (Steps.refl _) (argsL := []) (rest := []) (lenOf pd_15 rfl) rfl (Nat.le_of_eq rfl) (hb hby d31_1) (fun _ _ => ⟨rfl, e0, (by decide : 0 + 0 ≤ _), (by decide : 0 + 0 ≤ _)⟩)
  dsimp only [Pt.U, Pt.locs, Pt.cells, Pt.slots] at X450 l450 y450 z450 st450 hQ450
  subst l450 y450 z450
  obtain ⟨rfl, N450q, eq450⟩ := hQ450
  have N451 := Fr.app N0 N450q
  refine Go.step (fun _ k => st450.trans (XS.ifNo X450.here hx rfl (hb hby d31_4) rfl ((if0 _ _).trans (feq (by decide)).1) (XS.aloadN X450.here hx rfl (hb hby d31_7) rfl rfl k))) ?_
  show Go p e below s _ _ _ T450 (mkF m 8 #[vr uu21, vi n442] [(.ref uu21)])
  obtain ⟨T452, X452, e452, st452⟩ := getF X450 hx hZ hown (host := "") (Or.inl (tw35 hw)) Via.refl eq450 F_value_b267_404_431 (g := (mkF m 8 #[vr uu21, vi n442] [(.ref uu21)])) rfl rfl (hb hby d31_8)
  refine Go.step (fun _ k => st452 _ (XS.iloadN X452.here hx rfl (hb hby d31_11) rfl k)) ?_
  show Go p e below s _ _ _ T452 (mkF m 12 #[vr uu21, vi n442] [(.int n442), (.ref uu22)])
  obtain ⟨_, _, ⟨T469, L469, k469, n469⟩, -, X469, ⟨Lc469, hQ469, l469, y469, z469⟩, st469⟩ := Jvm.LawKit.callS X452 hx (y := xm7) hown (mvT hZ (tw186 hw)) (mvT hZ (tw187 hw)) (mvT hZ (tw188 hw)) (mvT hZ (tw189 hw)) (by decide) (backOf (W := 0) (rm_StringLatin1_charAt_0 l Z a0 hw [] uu22 n442 uu23 n453 l454 fv x461 h0 n0 Z0 V_b297_325_341_364_384_404_431 Z_S_SIOOBE_FORMATTER hfv d_467 d_468 O0 pk_464) hZ (tw189 hw) (tw188 hw) (by decide) (by decide)) (g := (mkF m 12 #[vr uu21, vi n442] [(.int n442), (.ref uu22)])) rfl (by rw [hml]; rfl) (argsL := [(.ref uu22), (.int n442)]) (rest := []) (lenOf pd_22 rfl) rfl (Nat.le_of_eq rfl) (hb hby d31_12) (fun _ _ => ⟨rfl, e452, (by decide : 0 + 0 ≤ _), (by decide : 0 + 0 ≤ _)⟩)
  dsimp only [Pt.U, Pt.locs, Pt.cells, Pt.slots] at X469 l469 y469 z469 st469 hQ469
  subst l469 y469 z469
  obtain ⟨rfl, N469q, eq469⟩ := hQ469
  have N470 := Fr.app N451 N469q
  refine Go.step (fun _ k => st469 _ k) ?_
  show Go p e below s _ _ _ T469 (mkF m 15 #[vr uu21, vi n442] [(.int (nar .char ((x461 &&& ci255).toUInt32.toUInt16.toUInt32.toInt32)))])
  exact Go.retN X469 hx hlk (t := .char) Bd.returns (by simp) (hb hby d31_15) eq469 ⟨rfl, N470, rfl⟩ (by decide) (by decide)

theorem ef_ObjectRefToStringPinLaw_ok_0 (m : MethodId) (x0 : Addr) (x1 : Int32) (x2 : Int32) (x3 : Int32) (x4 : Int32) (x5 : Int32) : entryFrame m #[(.ref x0), (.int x1), (.int x2), (.int x3), (.int x4), (.int x5)] 7 = mkF m 0 #[vr x0, vi x1, vi x2, vi x3, vi x4, vi x5, .unset] [] := by first | (simp [entryFrame, mkF, argsToLocals, Value.category]; done) | rfl
def Q_ObjectRefToStringPinLaw_ok_0 (Z : State) (uu21 : Addr) (n442 : Int32) (n443 : Int32) (n444 : Int32) (p1 : Int32) (p2 : Int32) (cs : Int32) (uu22 : Addr) (uu23 : ClassId) (n453 : Int32) (l454 : List Value) (fv : Value) (x462 : Int32) (h0 : Heap) (n0 : Nat) (v : Option Value) (h : Heap) (L : List Loc) : Prop := v = some cv1 ∧ Fr n0 L ∧ h = h0
set_option maxRecDepth 65536 in
set_option maxHeartbeats 40000000 in
theorem rm_ObjectRefToStringPinLaw_ok_0 (l : Launch) (Z : State) (a0 : Array Value) (hw : ∀ d ∈ tables_1, d.before a0 Z = true) (ws : List Jvm.Cond) (uu21 : Addr) (n442 : Int32) (n443 : Int32) (n444 : Int32) (p1 : Int32) (p2 : Int32) (cs : Int32) (uu22 : Addr) (uu23 : ClassId) (n453 : Int32) (l454 : List Value) (fv : Value) (x462 : Int32) (h0 : Heap) (n0 : Nat) (Z0 : n0 ≤ h0.size) (d_445 : n442 < n443) (d_446 : ¬ n442 < n444) (d_447 : n442 = n444) (E_b267_404_431 : Exa Z h0 uu21 xs25) (Z_S_COMPACT_STRINGS : Sta Z Z.heap xs25 xs28 "Z" (.int cs)) (O0 : Old Z n0 h0) (hcs : ¬ cs = ci0) (F_coder_b267_404_431 : Fld Z h0 uu21 xs25 "coder" "B" cv0) (F_value_b267_404_431 : Fld Z h0 uu21 xs25 "value" "[B" (.ref uu22)) (V_b297_325_341_364_384_404_431 : Arv Z h0 uu22 uu23 .byte n453 l454 cv0) (Z_S_SIOOBE_FORMATTER : Sta Z Z.heap xs7 xs24 xs8 fv) (hfv : fv.isRef = true) (pk_463 : (l454 : List Value).getD (n442).toNatClampNeg cv0 = .int x462) (d_471 : ¬ n442 < ci0) (d_472 : n442 < n453) (d_475 : (nar .char (nar .char ((x462 &&& ci255).toUInt32.toUInt16.toUInt32.toInt32))) = ci58) :
    MetFree l xm36 (head1 (Jvm.Cond.code xm36 method_3_code 7 (some .boolean) :: ws) xr22) (fun a U => a = #[(.ref uu21), (.int n442), (.int n443), (.int n444), (.int p1), (.int p2)] ∧ Z.Warmed39 U.vm ∧ U.heap = h0) (fun _ _ _ _ _ => True) (fun _ U o U' => ∃ v L, o = .returned v ∧ Q_ObjectRefToStringPinLaw_ok_0 Z uu21 n442 n443 n444 p1 p2 cs uu22 uu23 n453 l454 fv x462 h0 n0 v U'.heap L ∧ FrameEnd U o U' L xr22.cells xr22.slots) := by
  refine MetFree.of_bodySF (plainFor_of_name pn_2) hisR ?_
  intro p e s m args below meth c s₁ Bd hml0 hP hK
  obtain ⟨rfl, hZ, hh⟩ := hP
  have hx := Bd.exec
  have hby := Bd.bytes
  have hlk : meth.locks = false := BodyLoose.notSynchronized Bd
  have hml : c.maxLocals = 7 := hml0
  have hown : s.vm.findClass xs0 = some m.cls := findClass_of_methodNamed Bd.named
  have hnm := (name_of_methodNamed Bd.named Bd.method).1
  have X0 : Stand p l e xr22 s m #[(.ref uu21), (.int n442), (.int n443), (.int n444), (.int p1), (.int p2)] below meth c s₁ [] 0 0 := Stand.of_body Bd
  have e0 : s₁.heap = h0 := by rw [← hh, Bd.state]; rfl
  have N0 := Fr.nil n0
  show Go p e below s (Q_ObjectRefToStringPinLaw_ok_0 Z uu21 n442 n443 n444 p1 p2 cs uu22 uu23 n453 l454 fv x462 h0 n0) xr22.cells xr22.slots s₁ (entryFrame m #[(.ref uu21), (.int n442), (.int n443), (.int n444), (.int p1), (.int p2)] 7)
  refine Go.cast (ef_ObjectRefToStringPinLaw_ok_0 m uu21 n442 n443 n444 p1 p2) ?_
  show Go p e below s _ _ _ s₁ (mkF m 0 #[vr uu21, vi n442, vi n443, vi n444, vi p1, vi p2, .unset] [])
  refine Go.step (fun _ k => XS.iloadN X0.here hx rfl (hb hby d30_0) rfl (XS.iloadN X0.here hx rfl (hb hby d30_1) rfl (XS.icmpYes X0.here hx rfl (pc0 := 2) (pc' := 7) rfl (hb hby d30_2) rfl (tlt d_445).1 (by decide) (by decide) (XS.iloadN X0.here hx rfl (hb hby d30_7) rfl (XS.iloadN X0.here hx rfl (hb hby d30_8) rfl (XS.icmpYes X0.here hx rfl (pc0 := 9) (pc' := 23) rfl (hb hby d30_9) rfl (flt d_446).2.1 (by decide) (by decide) (XS.iloadN X0.here hx rfl (hb hby d30_23) rfl (XS.iloadN X0.here hx rfl (hb hby d30_24) rfl (XS.icmpNo X0.here hx rfl (hb hby d30_25) rfl (teq d_447).2 (XS.bipush X0.here hx rfl (hb hby d30_28) k)))))))))) ?_
  show Go p e below s _ _ _ s₁ (mkF m 30 #[vr uu21, vi n442, vi n443, vi n444, vi p1, vi p2, .unset] [cv58])
  refine Go.step (fun _ k => XS.istore X0.here hx rfl (hb hby d30_30) rfl (l' := #[vr uu21, vi n442, vi n443, vi n444, vi p1, vi p2, .val cv58]) rfl (XS.goto X0.here hx rfl (pc0 := 32) (pc' := 47) rfl (hb hby d30_32) (by decide) (by decide) (XS.aloadN X0.here hx rfl (hb hby d30_47) rfl rfl (XS.iloadN X0.here hx rfl (hb hby d30_48) rfl k)))) ?_
  show Go p e below s _ _ _ s₁ (mkF m 49 #[vr uu21, vi n442, vi n443, vi n444, vi p1, vi p2, .val cv58] [(.int n442), (.ref uu21)])
  obtain ⟨cq473, kq473, q473a, q473b, q473c⟩ := isOf hZ e0 E_b267_404_431
  obtain ⟨_, _, ⟨T473, L473, k473, n473⟩, -, X473, ⟨Lc473, hQ473, l473, y473, z473⟩, st473⟩ := X0.virtualBack hx (y := xm15) (z := xm15) hown (mvT hZ (tw176 hw)) (mvT hZ (tw177 hw)) (notFace_of_selects (args := #[]) (mvT hZ (tw179 hw))) (mvT hZ (tw179 hw)) (mvT hZ (tw178 hw)) (by decide) (backOf (W := 0) (rm_String_charAt_0 l Z a0 hw [] uu21 n442 cs uu22 uu23 n453 l454 fv x462 h0 n0 Z0 E_b267_404_431 Z_S_COMPACT_STRINGS O0 hcs F_coder_b267_404_431 F_value_b267_404_431 V_b297_325_341_364_384_404_431 Z_S_SIOOBE_FORMATTER hfv pk_463 d_471 d_472) hZ (tw180 hw) (tw6 hw) (by decide) (by decide)) q473a q473c (g := (mkF m 49 #[vr uu21, vi n442, vi n443, vi n444, vi p1, vi p2, .val cv58] [(.int n442), (.ref uu21)])) rfl (by rw [hml]; rfl) (Steps.refl _) (argsL := [(.int n442)]) (rest := []) (lenOf pd_23 rfl) rfl (Nat.le_of_eq rfl) (hb hby d30_49) (fun _ _ => ⟨rfl, e0, (by decide : 0 + 0 ≤ _), (by decide : 0 + 0 ≤ _)⟩)
  dsimp only [Pt.U, Pt.locs, Pt.cells, Pt.slots] at X473 l473 y473 z473 st473 hQ473
  subst l473 y473 z473
  obtain ⟨rfl, N473q, eq473⟩ := hQ473
  have N474 := Fr.app N0 N473q
  refine Go.step (fun _ k => st473.trans (XS.iload X473.here hx rfl (hb hby d30_52) rfl (XS.icmpNo X473.here hx rfl (hb hby d30_54) rfl (teq d_475).2 (XS.iconst X473.here hx rfl (hb hby d30_57) (XS.goto X473.here hx rfl (pc0 := 58) (pc' := 62) rfl (hb hby d30_58) (by decide) (by decide) k))))) ?_
  show Go p e below s _ _ _ T473 (mkF m 62 #[vr uu21, vi n442, vi n443, vi n444, vi p1, vi p2, .val cv58] [cv1])
  exact Go.retN X473 hx hlk (t := .boolean) Bd.returns (by simp) (hb hby d30_62) eq473 ⟨rfl, N474, rfl⟩ (by decide) (by decide)

theorem ef_ObjectRefToStringPinLaw_ok_1 (m : MethodId) (x0 : Addr) (x1 : Int32) (x2 : Int32) (x3 : Int32) (x4 : Int32) (x5 : Int32) : entryFrame m #[(.ref x0), (.int x1), (.int x2), (.int x3), (.int x4), (.int x5)] 7 = mkF m 0 #[vr x0, vi x1, vi x2, vi x3, vi x4, vi x5, .unset] [] := by first | (simp [entryFrame, mkF, argsToLocals, Value.category]; done) | rfl
def Q_ObjectRefToStringPinLaw_ok_1 (Z : State) (uu21 : Addr) (n478 : Int32) (n479 : Int32) (n480 : Int32) (p1 : Int32) (p2 : Int32) (h0 : Heap) (n0 : Nat) (v : Option Value) (h : Heap) (L : List Loc) : Prop := v = some cv1 ∧ Fr n0 L ∧ h = h0
set_option maxRecDepth 65536 in
set_option maxHeartbeats 40000000 in
theorem rm_ObjectRefToStringPinLaw_ok_1 (l : Launch) (Z : State) (a0 : Array Value) (hw : ∀ d ∈ tables_1, d.before a0 Z = true) (ws : List Jvm.Cond) (uu21 : Addr) (n478 : Int32) (n479 : Int32) (n480 : Int32) (p1 : Int32) (p2 : Int32) (h0 : Heap) (n0 : Nat) (Z0 : n0 ≤ h0.size) (d_481 : ¬ n478 < n479) :
    MetFree l xm36 (head1 (Jvm.Cond.code xm36 method_3_code 7 (some .boolean) :: ws) xr34) (fun a U => a = #[(.ref uu21), (.int n478), (.int n479), (.int n480), (.int p1), (.int p2)] ∧ Z.Warmed39 U.vm ∧ U.heap = h0) (fun _ _ _ _ _ => True) (fun _ U o U' => ∃ v L, o = .returned v ∧ Q_ObjectRefToStringPinLaw_ok_1 Z uu21 n478 n479 n480 p1 p2 h0 n0 v U'.heap L ∧ FrameEnd U o U' L xr34.cells xr34.slots) := by
  refine MetFree.of_bodySF (plainFor_of_name pn_2) hisR ?_
  intro p e s m args below meth c s₁ Bd hml0 hP hK
  obtain ⟨rfl, hZ, hh⟩ := hP
  have hx := Bd.exec
  have hby := Bd.bytes
  have hlk : meth.locks = false := BodyLoose.notSynchronized Bd
  have hml : c.maxLocals = 7 := hml0
  have hown : s.vm.findClass xs0 = some m.cls := findClass_of_methodNamed Bd.named
  have hnm := (name_of_methodNamed Bd.named Bd.method).1
  have X0 : Stand p l e xr34 s m #[(.ref uu21), (.int n478), (.int n479), (.int n480), (.int p1), (.int p2)] below meth c s₁ [] 0 0 := Stand.of_body Bd
  have e0 : s₁.heap = h0 := by rw [← hh, Bd.state]; rfl
  have N0 := Fr.nil n0
  show Go p e below s (Q_ObjectRefToStringPinLaw_ok_1 Z uu21 n478 n479 n480 p1 p2 h0 n0) xr34.cells xr34.slots s₁ (entryFrame m #[(.ref uu21), (.int n478), (.int n479), (.int n480), (.int p1), (.int p2)] 7)
  refine Go.cast (ef_ObjectRefToStringPinLaw_ok_1 m uu21 n478 n479 n480 p1 p2) ?_
  show Go p e below s _ _ _ s₁ (mkF m 0 #[vr uu21, vi n478, vi n479, vi n480, vi p1, vi p2, .unset] [])
  refine Go.step (fun _ k => XS.iloadN X0.here hx rfl (hb hby d30_0) rfl (XS.iloadN X0.here hx rfl (hb hby d30_1) rfl (XS.icmpNo X0.here hx rfl (hb hby d30_2) rfl (flt d_481).1 (XS.iconst X0.here hx rfl (hb hby d30_5) k)))) ?_
  show Go p e below s _ _ _ s₁ (mkF m 6 #[vr uu21, vi n478, vi n479, vi n480, vi p1, vi p2, .unset] [cv1])
  exact Go.retN X0 hx hlk (t := .boolean) Bd.returns (by simp) (hb hby d30_6) e0 ⟨rfl, N0, rfl⟩ (by decide) (by decide)

theorem ef_StringUTF16_compress_1 (m : MethodId) (x0 : Addr) (x1 : Int32) (x2 : Addr) (x3 : Int32) (x4 : Int32) : entryFrame m #[(.ref x0), (.int x1), (.ref x2), (.int x3), (.int x4)] 7 = mkF m 0 #[vr x0, vi x1, vr x2, vi x3, vi x4, .unset, .unset] [] := by first | (simp [entryFrame, mkF, argsToLocals, Value.category]; done) | rfl
def Q_StringUTF16_compress_1 (Z : State) (b497 : Addr) (b511 : Addr) (k497 : ClassId) (v507 : Int32) (k511 : ClassId) (h0 : Heap) (n0 : Nat) (v : Option Value) (h : Heap) (L : List Loc) : Prop := v = some cv1 ∧ Fr n0 L ∧ Keep h0 h [b511] ∧ Arv Z h b511 k511 .byte ci1 [(.int (nar .byte (v507.toInt8.toInt32)))] cv0
set_option maxRecDepth 65536 in
set_option maxHeartbeats 40000000 in
theorem rm_StringUTF16_compress_1 (l : Launch) (Z : State) (a0 : Array Value) (hw : ∀ d ∈ tables_1, d.before a0 Z = true) (ws : List Jvm.Cond) (b497 : Addr) (b511 : Addr) (k497 : ClassId) (v507 : Int32) (k511 : ClassId) (h0 : Heap) (n0 : Nat) (Z0 : n0 ≤ h0.size) (V_b497 : Arv Z h0 b497 k497 .char ci1 [(.int v507)] cv0) (as_514 : ¬ ci255 < v507) (V_b511 : Arv Z h0 b511 k511 .byte ci1 [cv0] cv0) (g_b511 : n0 ≤ b511) :
    MetFree l xm1 (head1 (Jvm.Cond.code xm1 jdk_52_method_21_code 7 (some .int) :: ws) xr34) (fun a U => a = #[(.ref b497), cv0, (.ref b511), cv0, cv1] ∧ Z.Warmed39 U.vm ∧ U.heap = h0) (fun _ _ _ _ _ => True) (fun _ U o U' => ∃ v L, o = .returned v ∧ Q_StringUTF16_compress_1 Z b497 b511 k497 v507 k511 h0 n0 v U'.heap L ∧ FrameEnd U o U' L xr34.cells xr34.slots) := by
  refine MetFree.of_bodySF (plainFor_of_name pn_9) hisR ?_
  intro p e s m args below meth c s₁ Bd hml0 hP hK
  obtain ⟨rfl, hZ, hh⟩ := hP
  have hx := Bd.exec
  have hby := Bd.bytes
  have hlk : meth.locks = false := BodyLoose.notSynchronized Bd
  have hml : c.maxLocals = 7 := hml0
  have hown : s.vm.findClass xs19 = some m.cls := findClass_of_methodNamed Bd.named
  have hnm := (name_of_methodNamed Bd.named Bd.method).1
  have X0 : Stand p l e xr34 s m #[(.ref b497), cv0, (.ref b511), cv0, cv1] below meth c s₁ [] 0 0 := Stand.of_body Bd
  have e0 : s₁.heap = h0 := by rw [← hh, Bd.state]; rfl
  have N0 := Fr.nil n0
  show Go p e below s (Q_StringUTF16_compress_1 Z b497 b511 k497 v507 k511 h0 n0) xr34.cells xr34.slots s₁ (entryFrame m #[(.ref b497), cv0, (.ref b511), cv0, cv1] 7)
  refine Go.cast (ef_StringUTF16_compress_1 m b497 ci0 b511 ci0 ci1) ?_
  show Go p e below s _ _ _ s₁ (mkF m 0 #[vr b497, .val cv0, vr b511, .val cv0, .val cv1, .unset, .unset] [])
  refine Go.step (fun _ k => XS.iconst X0.here hx rfl (hb hby d35_0) (XS.istore X0.here hx rfl (hb hby d35_1) rfl (l' := #[vr b497, .val cv0, vr b511, .val cv0, .val cv1, .val cv0, .unset]) rfl (XS.iload X0.here hx rfl (hb hby d35_3) rfl (XS.iload X0.here hx rfl (hb hby d35_5) rfl (XS.icmpNo X0.here hx rfl (hb hby d35_7) rfl (tlt (by decide)).2.1 (XS.aloadN X0.here hx rfl (hb hby d35_10) rfl rfl (XS.iloadN X0.here hx rfl (hb hby d35_11) rfl k))))))) ?_
  show Go p e below s _ _ _ s₁ (mkF m 12 #[vr b497, .val cv0, vr b511, .val cv0, .val cv1, .val cv0, .unset] [cv0, (.ref b497)])
  obtain ⟨cl513, Ar513, -, Sz513, Ng513, Hs513, Ft513⟩ := id V_b497
  have in513 : ¬ (ci0 < 0 ∨ cl513.slots.size ≤ (ci0).toNatClampNeg) := (inb_of Sz513 ⟨by decide, by decide⟩)
  have at513 : cl513.slots[(ci0).toNatClampNeg]? = some (.int v507) := Hs513.at in513 rfl
  refine Go.step (fun _ k => X0.caload hx (j := ci0) (v := (.int v507)) (by rw [e0]; exact Ar513.1) (State.isArrayOf_alike hZ.alike Ar513.2.1) Ar513.2.2 in513 at513 (g := (mkF m 12 #[vr b497, .val cv0, vr b511, .val cv0, .val cv1, .val cv0, .unset] [cv0, (.ref b497)])) rfl rfl (hb hby d35_12) _ (XS.istore X0.here hx rfl (hb hby d35_13) rfl (l' := #[vr b497, .val cv0, vr b511, .val cv0, .val cv1, .val cv0, vi v507]) rfl (XS.iload X0.here hx rfl (hb hby d35_15) rfl (XS.sipush X0.here hx rfl (hb hby d35_17) (XS.icmpYes X0.here hx rfl (pc0 := 20) (pc' := 26) rfl (hb hby d35_20) rfl (flt as_514).2.2.2 (by decide) (by decide) (XS.aloadN X0.here hx rfl (hb hby d35_26) rfl rfl (XS.iloadN X0.here hx rfl (hb hby d35_27) rfl (XS.iload X0.here hx rfl (hb hby d35_28) rfl (XS.i2b X0.here hx rfl (hb hby d35_30) rfl k))))))))) ?_
  show Go p e below s _ _ _ s₁ (mkF m 31 #[vr b497, .val cv0, vr b511, .val cv0, .val cv1, .val cv0, vi v507] [(.int (v507.toInt8.toInt32)), cv0, (.ref b511)])
  obtain ⟨cl515, Ar515, qq515, Sz515, Ng515, Hs515, Ft515⟩ := id V_b511
  have in515 : ¬ (ci0 < 0 ∨ cl515.slots.size ≤ (ci0).toNatClampNeg) := (inb_of Sz515 ⟨by decide, by decide⟩)
  obtain ⟨T515, h515, X515, e515, W515, st515⟩ := stB X0 hx hZ e0 Ar515 (j := ci0) in515 (g := (mkF m 31 #[vr b497, .val cv0, vr b511, .val cv0, .val cv1, .val cv0, vi v507] [(.int (v507.toInt8.toInt32)), cv0, (.ref b511)])) rfl rfl (hb hby d35_31)
  have f517 : Arv Z h515 b511 k511 .byte ci1 [(.int (nar .byte (v507.toInt8.toInt32)))] cv0 := Arv.set Ar515 qq515 Sz515 Ng515 Hs515 Ft515 (fits_nar_byte _) W515 0 rfl (Nat.le_of_ble_eq_true rfl)
  have N518 := Fr.snoc X515 N0 g_b511
  refine Go.step (fun _ k => st515 _ (XS.iinc X515.here hx rfl (hb hby d35_32) rfl (l' := #[vr b497, .val (.int (ci0 + ci1)), vr b511, .val cv0, .val cv1, .val cv0, vi v507]) rfl (XS.iinc X515.here hx rfl (hb hby d35_35) rfl (l' := #[vr b497, .val cv1, vr b511, .val (.int (ci0 + ci1)), .val cv1, .val cv0, vi v507]) rfl (XS.iinc X515.here hx rfl (hb hby d35_38) rfl (l' := #[vr b497, .val cv1, vr b511, .val cv1, .val cv1, .val (.int (ci0 + ci1)), vi v507]) rfl (XS.goto X515.here hx rfl (pc0 := 41) (pc' := 3) rfl (hb hby d35_41) (by decide) (by decide) (XS.iload X515.here hx rfl (hb hby d35_3) rfl (XS.iload X515.here hx rfl (hb hby d35_5) rfl (XS.icmpYes X515.here hx rfl (pc0 := 7) (pc' := 44) rfl (hb hby d35_7) rfl (flt (by decide)).2.1 (by decide) (by decide) (XS.iload X515.here hx rfl (hb hby d35_44) rfl k))))))))) ?_
  show Go p e below s _ _ _ T515 (mkF m 46 #[vr b497, .val cv1, vr b511, .val cv1, .val cv1, .val cv1, vi v507] [cv1])
  have f519 := ((Keep.refl h0 [b511]).wr W515 (Or.inl (List.mem_of_getElem? (i := 0) rfl)))
  have f520 := (Nat.le_trans (Nat.le_refl _) (Keep.of_wr W515).1)
  exact Go.retI X515 hx hlk Bd.returns (hb hby d35_46) e515 ⟨rfl, N518, f519, f517⟩ (by decide) (by decide)

theorem ef_StringUTF16_compress_0 (m : MethodId) (x0 : Addr) (x1 : Int32) (x2 : Int32) : entryFrame m #[(.ref x0), (.int x1), (.int x2)] 6 = mkF m 0 #[vr x0, vi x1, vi x2, .unset, .unset, .unset] [] := by first | (simp [entryFrame, mkF, argsToLocals, Value.category]; done) | rfl
def Q_StringUTF16_compress_0 (Z : State) (b497 : Addr) (k497 : ClassId) (v507 : Int32) (h0 : Heap) (n0 : Nat) (v : Option Value) (h : Heap) (L : List Loc) : Prop := ∃ (b511 : Addr) (k511 : ClassId), v = some (.ref b511) ∧ Fr n0 L ∧ Keep h0 h [] ∧ h0.size ≤ b511 ∧ Arv Z h b511 k511 .byte ci1 [(.int (nar .byte (v507.toInt8.toInt32)))] cv0
set_option maxRecDepth 65536 in
set_option maxHeartbeats 40000000 in
theorem rm_StringUTF16_compress_0 (l : Launch) (Z : State) (a0 : Array Value) (hw : ∀ d ∈ tables_1, d.before a0 Z = true) (ws : List Jvm.Cond) (b497 : Addr) (k497 : ClassId) (v507 : Int32) (h0 : Heap) (n0 : Nat) (Z0 : n0 ≤ h0.size) (V_b497 : Arv Z h0 b497 k497 .char ci1 [(.int v507)] cv0) (as_514 : ¬ ci255 < v507) :
    MetFree l xm3 (head1 (Jvm.Cond.code xm3 jdk_52_method_16_code 6 (some (.array .byte)) :: ws) xr23) (fun a U => a = #[(.ref b497), cv0, cv1] ∧ Z.Warmed39 U.vm ∧ U.heap = h0) (fun _ _ _ _ _ => True) (fun _ U o U' => ∃ v L, o = .returned v ∧ Q_StringUTF16_compress_0 Z b497 k497 v507 h0 n0 v U'.heap L ∧ FrameEnd U o U' L xr23.cells xr23.slots) := by
  refine MetFree.of_bodySF (plainFor_of_name pn_9) hisR ?_
  intro p e s m args below meth c s₁ Bd hml0 hP hK
  obtain ⟨rfl, hZ, hh⟩ := hP
  have hx := Bd.exec
  have hby := Bd.bytes
  have hlk : meth.locks = false := BodyLoose.notSynchronized Bd
  have hml : c.maxLocals = 6 := hml0
  have hown : s.vm.findClass xs19 = some m.cls := findClass_of_methodNamed Bd.named
  have hnm := (name_of_methodNamed Bd.named Bd.method).1
  have X0 : Stand p l e xr23 s m #[(.ref b497), cv0, cv1] below meth c s₁ [] 0 0 := Stand.of_body Bd
  have e0 : s₁.heap = h0 := by rw [← hh, Bd.state]; rfl
  have N0 := Fr.nil n0
  show Go p e below s (Q_StringUTF16_compress_0 Z b497 k497 v507 h0 n0) xr23.cells xr23.slots s₁ (entryFrame m #[(.ref b497), cv0, cv1] 6)
  refine Go.cast (ef_StringUTF16_compress_0 m b497 ci0 ci1) ?_
  show Go p e below s _ _ _ s₁ (mkF m 0 #[vr b497, .val cv0, .val cv1, .unset, .unset, .unset] [])
  refine Go.step (fun _ k => XS.iloadN X0.here hx rfl (hb hby d34_0) rfl k) ?_
  show Go p e below s _ _ _ s₁ (mkF m 1 #[vr b497, .val cv0, .val cv1, .unset, .unset, .unset] [cv1])
  obtain ⟨T511, h511, k511, X511, e511, E511, A511, st511⟩ := newP (aty := .byte) X0 hx hZ (tw26 hw) e0 (g := (mkF m 1 #[vr b497, .val cv0, .val cv1, .unset, .unset, .unset] [cv1])) rfl (hb hby d34_1) rfl (by decide) (cap := 1) (by decide) (by decide) (by decide) (by decide)
  obtain ⟨b511, g511⟩ : ∃ z, z = h0.size := ⟨_, rfl⟩
  rw [← g511] at A511 st511
  have f512 : Arv Z h511 b511 k511 .byte ci1 [cv0] cv0 := (Arv.new A511 (by decide)).pad (pad_rep [] cv0 1)
  refine Go.step (fun _ k => st511 _ (XS.astoreN X511.here hx rfl (hb hby d34_3) rfl rfl (l' := #[vr b497, .val cv0, .val cv1, vr b511, .unset, .unset]) rfl (XS.aloadN X511.here hx rfl (hb hby d34_4) rfl rfl (XS.iloadN X511.here hx rfl (hb hby d34_5) rfl (XS.aloadN X511.here hx rfl (hb hby d34_6) rfl rfl (XS.iconst X511.here hx rfl (hb hby d34_7) (XS.iloadN X511.here hx rfl (hb hby d34_8) rfl k))))))) ?_
  show Go p e below s _ _ _ T511 (mkF m 9 #[vr b497, .val cv0, .val cv1, vr b511, .unset, .unset] [cv1, cv0, (.ref b511), cv0, (.ref b497)])
  have g516 := Nat.le_trans Z0 (Nat.le_of_eq g511.symm)
  have f521 := (Nat.le_trans Z0 E511.1)
  have f522 := (V_b497.ext E511)
  obtain ⟨_, _, ⟨T523, L523, k523, n523⟩, -, X523, ⟨Lc523, hQ523, l523, y523, z523⟩, st523⟩ := Jvm.LawKit.callS X511 hx (y := xm1) hown (mvT hZ (tw27 hw)) (mvT hZ (tw28 hw)) (mvT hZ (tw24 hw)) (mvT hZ (tw29 hw)) (by decide) (backOf (W := 0) (rm_StringUTF16_compress_1 l Z a0 hw [] b497 b511 k497 v507 k511 h511 n0 f521 f522 as_514 f512 g516) hZ (tw29 hw) (tw24 hw) (by decide) (by decide)) (g := (mkF m 9 #[vr b497, .val cv0, .val cv1, vr b511, .unset, .unset] [cv1, cv0, (.ref b511), cv0, (.ref b497)])) rfl (by rw [hml]; rfl) (argsL := [(.ref b497), cv0, (.ref b511), cv0, cv1]) (rest := []) (lenOf pd_26 rfl) rfl (Nat.le_of_eq rfl) (hb hby d34_9) (fun _ _ => ⟨rfl, e511, (by decide : 1 + 0 ≤ _), (by decide : 1 + 0 ≤ _)⟩)
  dsimp only [Pt.U, Pt.locs, Pt.cells, Pt.slots] at X523 l523 y523 z523 st523 hQ523
  subst l523 y523 z523
  obtain ⟨rfl, N523q, K523, P523_0⟩ := hQ523
  have N524 := Fr.app N0 N523q
  refine Go.step (fun _ k => st523 _ (XS.istore X523.here hx rfl (hb hby d34_12) rfl (l' := #[vr b497, .val cv0, .val cv1, vr b511, .val cv1, .unset]) rfl (XS.iload X523.here hx rfl (hb hby d34_14) rfl (XS.iloadN X523.here hx rfl (hb hby d34_16) rfl (XS.icmpYes X523.here hx rfl (pc0 := 17) (pc' := 57) rfl (hb hby d34_17) rfl (teq (by decide)).1 (by decide) (by decide) (XS.aloadN X523.here hx rfl (hb hby d34_57) rfl rfl k)))))) ?_
  show Go p e below s _ _ _ T523 (mkF m 58 #[vr b497, .val cv0, .val cv1, vr b511, .val cv1, .unset] [(.ref b511)])
  have z525 := Nat.le_trans (Nat.le_refl _) (Nat.le_of_eq g511.symm)
  have f526 := (((Keep.refl h0 []).ext E511).trans K523 (allS (Or.inr z525) all0))
  have f527 := (Nat.le_trans (Nat.le_trans (Nat.le_refl _) E511.1) K523.1)
  exact Go.retA X523 hx hlk Bd.returns rfl rfl (hb hby d34_58) rfl ⟨b511, k511, rfl, N524, f526, z525, P523_0⟩ (by decide) (by decide)

theorem ef_StringUTF16_coderFromArrayLen_0 (m : MethodId) (x0 : Addr) (x1 : Int32) : entryFrame m #[(.ref x0), (.int x1)] 2 = mkF m 0 #[vr x0, vi x1] [] := by first | (simp [entryFrame, mkF, argsToLocals, Value.category]; done) | rfl
def Q_StringUTF16_coderFromArrayLen_0 (Z : State) (uu24 : Addr) (uu25 : ClassId) (v530 : Int32) (h0 : Heap) (n0 : Nat) (v : Option Value) (h : Heap) (L : List Loc) : Prop := v = some cv0 ∧ Fr n0 L ∧ h = h0
set_option maxRecDepth 65536 in
set_option maxHeartbeats 40000000 in
theorem rm_StringUTF16_coderFromArrayLen_0 (l : Launch) (Z : State) (a0 : Array Value) (hw : ∀ d ∈ tables_1, d.before a0 Z = true) (ws : List Jvm.Cond) (uu24 : Addr) (uu25 : ClassId) (v530 : Int32) (h0 : Heap) (n0 : Nat) (Z0 : n0 ≤ h0.size) (V_b511_528 : Arv Z h0 uu24 uu25 .byte ci1 [(.int v530)] cv0) :
    MetFree l xm27 (head1 (Jvm.Cond.code xm27 jdk_52_method_15_code 2 (some .byte) :: ws) xr34) (fun a U => a = #[(.ref uu24), cv1] ∧ Z.Warmed39 U.vm ∧ U.heap = h0) (fun _ _ _ _ _ => True) (fun _ U o U' => ∃ v L, o = .returned v ∧ Q_StringUTF16_coderFromArrayLen_0 Z uu24 uu25 v530 h0 n0 v U'.heap L ∧ FrameEnd U o U' L xr34.cells xr34.slots) := by
  refine MetFree.of_bodySF (plainFor_of_name pn_9) hisR ?_
  intro p e s m args below meth c s₁ Bd hml0 hP hK
  obtain ⟨rfl, hZ, hh⟩ := hP
  have hx := Bd.exec
  have hby := Bd.bytes
  have hlk : meth.locks = false := BodyLoose.notSynchronized Bd
  have hml : c.maxLocals = 2 := hml0
  have hown : s.vm.findClass xs19 = some m.cls := findClass_of_methodNamed Bd.named
  have hnm := (name_of_methodNamed Bd.named Bd.method).1
  have X0 : Stand p l e xr34 s m #[(.ref uu24), cv1] below meth c s₁ [] 0 0 := Stand.of_body Bd
  have e0 : s₁.heap = h0 := by rw [← hh, Bd.state]; rfl
  have N0 := Fr.nil n0
  show Go p e below s (Q_StringUTF16_coderFromArrayLen_0 Z uu24 uu25 v530 h0 n0) xr34.cells xr34.slots s₁ (entryFrame m #[(.ref uu24), cv1] 2)
  refine Go.cast (ef_StringUTF16_coderFromArrayLen_0 m uu24 ci1) ?_
  show Go p e below s _ _ _ s₁ (mkF m 0 #[vr uu24, .val cv1] [])
  refine Go.step (fun _ k => XS.iloadN X0.here hx rfl (hb hby d36_0) rfl (XS.aloadN X0.here hx rfl (hb hby d36_1) rfl rfl k)) ?_
  show Go p e below s _ _ _ s₁ (mkF m 2 #[vr uu24, .val cv1] [(.ref uu24), cv1])
  obtain ⟨cl531, Ar531, -, Sz531, Ng531, -, -⟩ := id V_b511_528
  have aln531 := X0.arraylength hx (by rw [e0]; exact Ar531.1) (State.isArrayOf_alike hZ.alike Ar531.2.1) (g := (mkF m 2 #[vr uu24, .val cv1] [(.ref uu24), cv1])) rfl rfl (hb hby d36_2)
  rw [len_of Sz531 Ng531] at aln531
  refine Go.step (fun _ k => aln531 _ (XS.isub X0.here hx rfl (hb hby d36_3) rfl (XS.bipush X0.here hx rfl (hb hby d36_4) (XS.iushr X0.here hx rfl (hb hby d36_6) rfl (XS.i2b X0.here hx rfl (hb hby d36_7) rfl k))))) ?_
  show Go p e below s _ _ _ s₁ (mkF m 8 #[vr uu24, .val cv1] [cv0])
  exact Go.retN X0 hx hlk (t := .byte) Bd.returns (by simp) (hb hby d36_8) e0 ⟨rfl, N0, rfl⟩ (by decide) (by decide)

theorem ef_String_new_5 (m : MethodId) (x0 : Addr) (x1 : Addr) (x2 : Int32) (x3 : Int32) : entryFrame m #[(.ref x0), (.ref x1), (.int x2), (.int x3), .null] 6 = mkF m 0 #[vr x0, vr x1, vi x2, vi x3, .val .null, .unset] [] := by first | (simp [entryFrame, mkF, argsToLocals, Value.category]; done) | rfl
def Q_String_new_5 (Z : State) (b494 : Addr) (b497 : Addr) (cs : Int32) (k497 : ClassId) (v507 : Int32) (h0 : Heap) (n0 : Nat) (v : Option Value) (h : Heap) (L : List Loc) : Prop := ∃ (uu24 : Addr) (uu25 : ClassId), v = none ∧ Fr n0 L ∧ Keep h0 h [b494] ∧ Fld Z h b494 xs25 "coder" "B" cv0 ∧ Fld Z h b494 xs25 "value" "[B" (.ref uu24) ∧ h0.size ≤ uu24 ∧ Arv Z h uu24 uu25 .byte ci1 [(.int (nar .byte (v507.toInt8.toInt32)))] cv0
set_option maxRecDepth 65536 in
set_option maxHeartbeats 40000000 in
theorem rm_String_new_5 (l : Launch) (Z : State) (a0 : Array Value) (hw : ∀ d ∈ tables_1, d.before a0 Z = true) (ws : List Jvm.Cond) (b494 : Addr) (b497 : Addr) (cs : Int32) (k497 : ClassId) (v507 : Int32) (h0 : Heap) (n0 : Nat) (Z0 : n0 ≤ h0.size) (Z_S_COMPACT_STRINGS : Sta Z Z.heap xs25 xs28 "Z" (.int cs)) (O0 : Old Z n0 h0) (hcs : ¬ cs = ci0) (V_b497 : Arv Z h0 b497 k497 .char ci1 [(.int v507)] cv0) (as_514 : ¬ ci255 < v507) (E_b494 : Exa Z h0 b494 xs25) (F_coder_b494 : Fld Z h0 b494 xs25 "coder" "B" cv0) (g_b494 : n0 ≤ b494) (F_value_b494 : Fld Z h0 b494 xs25 "value" "[B" .null) :
    MetFree l xm22 (head1 (Jvm.Cond.code xm22 jdk_42_method_149_code 6 none :: ws) xr24) (fun a U => a = #[(.ref b494), (.ref b497), cv0, cv1, .null] ∧ Z.Warmed39 U.vm ∧ U.heap = h0 ∧ CHv Z consts_1 U.vm h0) (fun _ _ _ _ _ => True) (fun _ U o U' => ∃ v L, o = .returned v ∧ Q_String_new_5 Z b494 b497 cs k497 v507 h0 n0 v U'.heap L ∧ CHr Z consts_1 U.vm U.heap U'.vm U'.heap ∧ ReturnedEndW U o U' L xr24.cells xr24.slots) := by
  refine MetFree.of_bodySF (plainFor_of_name pn_1) hisR ?_
  intro p e s m args below meth c s₁ Bd hml0 hP hK
  obtain ⟨rfl, hZ, hh, hCH⟩ := hP
  have hx := Bd.exec
  have hby := Bd.bytes
  have hlk : meth.locks = false := BodyLoose.notSynchronized Bd
  have hml : c.maxLocals = 6 := hml0
  have hown : s.vm.findClass xs25 = some m.cls := findClass_of_methodNamed Bd.named
  have hnm := (name_of_methodNamed Bd.named Bd.method).1
  have X0 : Stand p l e xr24 (s.setVm s.vm) m #[(.ref b494), (.ref b497), cv0, cv1, .null] below meth c s₁ [] 0 0 := Stand.of_body Bd
  have e0 : s₁.heap = h0 := by rw [← hh, Bd.state]; rfl
  have N0 := Fr.nil n0
  have hS0 : s.Since s.vm h0.size := (State.WarmedH.refl s).since _
  have CH0 : CHr Z consts_1 s.vm s.heap s.vm h0 := by rw [hh]; exact CHr.refl hCH
  have hZ_0 := hZ
  show GoH p e below s (((Q_String_new_5 Z b494 b497 cs k497 v507 h0 n0, fun vm h => CHr Z consts_1 s.vm s.heap vm h) : (Option Value → Heap → List Loc → Prop) × (Vm → Heap → Prop))) xr24.cells xr24.slots s₁ (entryFrame m #[(.ref b494), (.ref b497), cv0, cv1, .null] 6)
  refine GoH.cast (ef_String_new_5 m b494 b497 ci0 ci1) ?_
  show GoH p e below s _ _ _ s₁ (mkF m 0 #[vr b494, vr b497, .val cv0, .val cv1, .val .null, .unset] [])
  refine GoH.step (fun _ k => XS.aloadN X0.here hx rfl (hb hby d5_0) rfl rfl k) ?_
  show GoH p e below s _ _ _ s₁ (mkF m 1 #[vr b494, vr b497, .val cv0, .val cv1, .val .null, .unset] [(.ref b494)])
  obtain ⟨T509, X509, e509, st509⟩ := initO X0 hx hZ hown (tw18 hw) (tw19 hw) (tw20 hw) e0 (g := (mkF m 1 #[vr b494, vr b497, .val cv0, .val cv1, .val .null, .unset] [(.ref b494)])) rfl (by rw [hml]; rfl) rfl (hb hby d5_1) (by decide) (W := 0) (Nat.le_of_eq rfl) (by decide)
  refine GoH.step (fun _ k => st509 _ (XS.iloadN X509.here hx rfl (hb hby d5_4) rfl (XS.ifYes X509.here hx rfl (pc0 := 5) (pc' := 27) rfl (hb hby d5_5) rfl ((if0 _ _).trans (feq (by decide)).2) (by decide) (by decide) k))) ?_
  show GoH p e below s _ _ _ T509 (mkF m 27 #[vr b494, vr b497, .val cv0, .val cv1, .val .null, .unset] [])
  obtain ⟨T510, X510, e510, st510⟩ := getS2 X509 hx hZ hown (host := "") (Or.inl (tw21 hw)) Via.refl e509 (Z_S_COMPACT_STRINGS.ext O0.2) (g := (mkF m 27 #[vr b494, vr b497, .val cv0, .val cv1, .val .null, .unset] [])) rfl (hb hby d5_27)
  refine GoH.step (fun _ k => st510 _ (XS.ifNo X510.here hx rfl (hb hby d5_30) rfl ((if0 _ _).trans (feq hcs).1) (XS.aloadN X510.here hx rfl (hb hby d5_33) rfl rfl (XS.iloadN X510.here hx rfl (hb hby d5_34) rfl (XS.iloadN X510.here hx rfl (hb hby d5_35) rfl k))))) ?_
  show GoH p e below s _ _ _ T510 (mkF m 36 #[vr b494, vr b497, .val cv0, .val cv1, .val .null, .unset] [cv1, cv0, (.ref b497)])
  obtain ⟨_, _, ⟨T528, L528, k528, n528⟩, -, X528, ⟨Lc528, hQ528, l528, y528, z528⟩, st528⟩ := Jvm.LawKit.callS X510 hx (y := xm3) hown (mvT hZ (tw22 hw)) (mvT hZ (tw23 hw)) (mvT hZ (tw24 hw)) (mvT hZ (tw25 hw)) (by decide) (backOf (W := 0) (rm_StringUTF16_compress_0 l Z a0 hw [] b497 k497 v507 h0 n0 Z0 V_b497 as_514) hZ (tw25 hw) (tw24 hw) (by decide) (by decide)) (g := (mkF m 36 #[vr b494, vr b497, .val cv0, .val cv1, .val .null, .unset] [cv1, cv0, (.ref b497)])) rfl (by rw [hml]; rfl) (argsL := [(.ref b497), cv0, cv1]) (rest := []) (lenOf pd_27 rfl) rfl (Nat.le_of_eq rfl) (hb hby d5_36) (fun _ _ => ⟨rfl, e510, (by decide : 0 + 1 ≤ _), (by decide : 0 + 1 ≤ _)⟩)
  dsimp only [Pt.U, Pt.locs, Pt.cells, Pt.slots] at X528 l528 y528 z528 st528 hQ528
  subst l528 y528 z528
  obtain ⟨uu24, uu25, rfl, N528q, K528, P528_0, P528_1⟩ := hQ528
  have N529 := Fr.app N0 N528q
  refine GoH.step (fun _ k => st528 _ (XS.astore X528.here hx rfl (hb hby d5_39) rfl rfl (l' := #[vr b494, vr b497, .val cv0, .val cv1, .val .null, vr uu24]) rfl (XS.aloadN X528.here hx rfl (hb hby d5_41) rfl rfl (XS.aload X528.here hx rfl (hb hby d5_42) rfl rfl (XS.iloadN X528.here hx rfl (hb hby d5_44) rfl k))))) ?_
  show GoH p e below s _ _ _ T528 (mkF m 45 #[vr b494, vr b497, .val cv0, .val cv1, .val .null, vr uu24] [cv1, (.ref uu24), (.ref b494)])
  have f532 := (Nat.le_trans Z0 K528.1)
  obtain ⟨_, _, ⟨T533, L533, k533, n533⟩, -, X533, ⟨Lc533, hQ533, l533, y533, z533⟩, st533⟩ := Jvm.LawKit.callS X528 hx (y := xm27) hown (mvT hZ (tw30 hw)) (mvT hZ (tw31 hw)) (mvT hZ (tw24 hw)) (mvT hZ (tw32 hw)) (by decide) (backOf (W := 1) (rm_StringUTF16_coderFromArrayLen_0 l Z a0 hw [] uu24 uu25 (nar .byte (v507.toInt8.toInt32)) T528.heap n0 f532 P528_1) hZ (tw32 hw) (tw24 hw) (by decide) (by decide)) (g := (mkF m 45 #[vr b494, vr b497, .val cv0, .val cv1, .val .null, vr uu24] [cv1, (.ref uu24), (.ref b494)])) rfl (by rw [hml]; rfl) (argsL := [(.ref uu24), cv1]) (rest := [(.ref b494)]) (lenOf pd_28 rfl) rfl (Nat.le_of_eq rfl) (hb hby d5_45) (fun _ _ => ⟨rfl, rfl, (by decide : 1 + 0 ≤ _), (by decide : 1 + 0 ≤ _)⟩)
  dsimp only [Pt.U, Pt.locs, Pt.cells, Pt.slots] at X533 l533 y533 z533 st533 hQ533
  subst l533 y533 z533
  obtain ⟨rfl, N533q, eq533⟩ := hQ533
  have N534 := Fr.app N529 N533q
  refine GoH.step (fun _ k => st533 _ k) ?_
  show GoH p e below s _ _ _ T533 (mkF m 48 #[vr b494, vr b497, .val cv0, .val cv1, .val .null, vr uu24] [cv0, (.ref b494)])
  have f535 := (F_coder_b494.keep K528 nin0)
  have f536 := (E_b494.keep K528)
  obtain ⟨T537, h537, X537, e537, W537, st537⟩ := putFN X533 hx hZ hown (tw33 hw) Via.refl eq533 f535 f536 (Or.inr ⟨(tw34 hw), rfl, hnm⟩) (tw5 hw) (ty := .byte) (v' := cv0) (by decide) rfl rfl (g := (mkF m 48 #[vr b494, vr b497, .val cv0, .val cv1, .val .null, vr uu24] [cv0, (.ref b494)])) rfl rfl (hb hby d5_48)
  have f539 := f535.same W537
  have N540 := Fr.snoc X537 N534 g_b494
  refine GoH.step (fun _ k => st537 _ (XS.aloadN X537.here hx rfl (hb hby d5_51) rfl rfl (XS.aload X537.here hx rfl (hb hby d5_52) rfl rfl k))) ?_
  show GoH p e below s _ _ _ T537 (mkF m 54 #[vr b494, vr b497, .val cv0, .val cv1, .val .null, vr uu24] [(.ref uu24), (.ref b494)])
  have f541 := ((F_value_b494.keep K528 nin0).other W537 (Or.inr (slot_ne (Or.inr (tw36 hw)) (Or.inr (tw34 hw)) (by decide) (t := (.array .byte)) (t' := .byte) (by decide) (by decide))))
  have f542 := (f536.wr W537)
  obtain ⟨T543, h543, X543, e543, W543, st543⟩ := putF X537 hx hZ hown (host := "") (Or.inl (tw35 hw)) Via.refl e537 f541 f542 (Or.inr ⟨(tw36 hw), rfl, hnm⟩) (tw5 hw) (ty := (.array .byte)) (by decide) rfl rfl (g := (mkF m 54 #[vr b494, vr b497, .val cv0, .val cv1, .val .null, vr uu24] [(.ref uu24), (.ref b494)])) rfl rfl (hb hby d5_54)
  have f544 := f541.same W543
  have N545 := Fr.snoc X543 N540 g_b494
  refine GoH.step (fun _ k => st543 _ k) ?_
  show GoH p e below s _ _ _ T543 (mkF m 57 #[vr b494, vr b497, .val cv0, .val cv1, .val .null, vr uu24] [])
  have f546 := ((((Keep.refl h0 [b494]).trans K528 all0).wr W537 (Or.inl (List.mem_of_getElem? (i := 0) rfl))).wr W543 (Or.inl (List.mem_of_getElem? (i := 0) rfl)))
  have f547 := (f539.other W543 (Or.inr (slot_ne (Or.inr (tw34 hw)) (Or.inr (tw36 hw)) (by decide) (t := .byte) (t' := (.array .byte)) (by decide) (by decide))))
  have z548 := Nat.le_trans (Nat.le_refl _) P528_0
  have ne549 : b494 ≠ uu24 := Nat.ne_of_lt (Nat.lt_of_lt_of_le E_b494.lt P528_0)
  have f550 := ((P528_1.other W537 (Ne.symm ne549)).other W543 (Ne.symm ne549))
  have f551 := (Nat.le_trans (Nat.le_trans (Nat.le_trans (Nat.le_refl _) K528.1) (Keep.of_wr W537).1) (Keep.of_wr W543).1)
  have f552 := (F_value_b494.keep K528 nin0)
  have sf553 := own_safeN (EL := consts_1) hZ_0.alike f552 f536
  have f554 := (own_chK CH0 K528 sf0)
  have f555 := (Safe.wr W537 sf553 f554.1 sf553)
  have f556 := (own_chW (own_chW (own_chK CH0 K528 sf0) W537 sf553) W543 f555)
  exact GoH.retV X543 hS0 hx hlk Bd.returns (hb hby d5_57) e543 f551 ⟨uu24, uu25, rfl, N545, f546, f547, f544, z548, f550⟩ (f556.trans (CHv.at X543 hZ_0 (own_EW hw) f556.1)) (by decide) (by decide)

theorem ef_String_new_4 (m : MethodId) (x0 : Addr) (x1 : Addr) : entryFrame m #[(.ref x0), (.ref x1)] 2 = mkF m 0 #[vr x0, vr x1] [] := by first | (simp [entryFrame, mkF, argsToLocals, Value.category]; done) | rfl
def Q_String_new_4 (Z : State) (b494 : Addr) (b497 : Addr) (k497 : ClassId) (v507 : Int32) (cs : Int32) (h0 : Heap) (n0 : Nat) (v : Option Value) (h : Heap) (L : List Loc) : Prop := ∃ (uu26 : Addr) (uu27 : ClassId), v = none ∧ Fr n0 L ∧ Keep h0 h [b494] ∧ Fld Z h b494 xs25 "coder" "B" cv0 ∧ Fld Z h b494 xs25 "value" "[B" (.ref uu26) ∧ h0.size ≤ uu26 ∧ Arv Z h uu26 uu27 .byte ci1 [(.int (nar .byte (v507.toInt8.toInt32)))] cv0
set_option maxRecDepth 65536 in
set_option maxHeartbeats 40000000 in
theorem rm_String_new_4 (l : Launch) (Z : State) (a0 : Array Value) (hw : ∀ d ∈ tables_1, d.before a0 Z = true) (ws : List Jvm.Cond) (b494 : Addr) (b497 : Addr) (k497 : ClassId) (v507 : Int32) (cs : Int32) (h0 : Heap) (n0 : Nat) (Z0 : n0 ≤ h0.size) (V_b497 : Arv Z h0 b497 k497 .char ci1 [(.int v507)] cv0) (Z_S_COMPACT_STRINGS : Sta Z Z.heap xs25 xs28 "Z" (.int cs)) (O0 : Old Z n0 h0) (hcs : ¬ cs = ci0) (as_514 : ¬ ci255 < v507) (E_b494 : Exa Z h0 b494 xs25) (F_coder_b494 : Fld Z h0 b494 xs25 "coder" "B" cv0) (g_b494 : n0 ≤ b494) (F_value_b494 : Fld Z h0 b494 xs25 "value" "[B" .null) :
    MetFree l xm8 (head1 (Jvm.Cond.code xm8 jdk_42_method_3_code 2 none :: ws) xr25) (fun a U => a = #[(.ref b494), (.ref b497)] ∧ Z.Warmed39 U.vm ∧ U.heap = h0 ∧ CHv Z consts_1 U.vm h0) (fun _ _ _ _ _ => True) (fun _ U o U' => ∃ v L, o = .returned v ∧ Q_String_new_4 Z b494 b497 k497 v507 cs h0 n0 v U'.heap L ∧ CHr Z consts_1 U.vm U.heap U'.vm U'.heap ∧ ReturnedEndW U o U' L xr25.cells xr25.slots) := by
  refine MetFree.of_bodySF (plainFor_of_name pn_1) hisR ?_
  intro p e s m args below meth c s₁ Bd hml0 hP hK
  obtain ⟨rfl, hZ, hh, hCH⟩ := hP
  have hx := Bd.exec
  have hby := Bd.bytes
  have hlk : meth.locks = false := BodyLoose.notSynchronized Bd
  have hml : c.maxLocals = 2 := hml0
  have hown : s.vm.findClass xs25 = some m.cls := findClass_of_methodNamed Bd.named
  have hnm := (name_of_methodNamed Bd.named Bd.method).1
  have X0 : Stand p l e xr25 (s.setVm s.vm) m #[(.ref b494), (.ref b497)] below meth c s₁ [] 0 0 := Stand.of_body Bd
  have e0 : s₁.heap = h0 := by rw [← hh, Bd.state]; rfl
  have N0 := Fr.nil n0
  have hS0 : s.Since s.vm h0.size := (State.WarmedH.refl s).since _
  have CH0 : CHr Z consts_1 s.vm s.heap s.vm h0 := by rw [hh]; exact CHr.refl hCH
  have hZ_0 := hZ
  show GoH p e below s (((Q_String_new_4 Z b494 b497 k497 v507 cs h0 n0, fun vm h => CHr Z consts_1 s.vm s.heap vm h) : (Option Value → Heap → List Loc → Prop) × (Vm → Heap → Prop))) xr25.cells xr25.slots s₁ (entryFrame m #[(.ref b494), (.ref b497)] 2)
  refine GoH.cast (ef_String_new_4 m b494 b497) ?_
  show GoH p e below s _ _ _ s₁ (mkF m 0 #[vr b494, vr b497] [])
  refine GoH.step (fun _ k => XS.aloadN X0.here hx rfl (hb hby d4_0) rfl rfl (XS.aloadN X0.here hx rfl (hb hby d4_1) rfl rfl (XS.iconst X0.here hx rfl (hb hby d4_2) (XS.aloadN X0.here hx rfl (hb hby d4_3) rfl rfl k)))) ?_
  show GoH p e below s _ _ _ s₁ (mkF m 4 #[vr b494, vr b497] [(.ref b497), cv0, (.ref b497), (.ref b494)])
  obtain ⟨cl508, Ar508, -, Sz508, Ng508, -, -⟩ := id V_b497
  have aln508 := X0.arraylength hx (by rw [e0]; exact Ar508.1) (State.isArrayOf_alike hZ.alike Ar508.2.1) (g := (mkF m 4 #[vr b494, vr b497] [(.ref b497), cv0, (.ref b497), (.ref b494)])) rfl rfl (hb hby d4_4)
  rw [len_of Sz508 Ng508] at aln508
  refine GoH.step (fun _ k => aln508 _ (XS.aconstNull X0.here hx rfl (hb hby d4_5) k)) ?_
  show GoH p e below s _ _ _ s₁ (mkF m 6 #[vr b494, vr b497] [.null, cv1, cv0, (.ref b497), (.ref b494)])
  obtain ⟨_, _, ⟨T557, L557, k557, n557⟩, -, X557s, hs557, hg557, ⟨Lc557, hQ557, l557, y557, z557, ch557⟩, st557⟩ := X0.specialBackS hx (y := xm22) rfl hown (mvT hZ (tw14 hw)) (mvT hZ (tw15 hw)) (mvT hZ (tw17 hw)) (by decide) (backOfSH (W := 0) (rm_String_new_5 l Z a0 hw [] b494 b497 cs k497 v507 h0 n0 Z0 Z_S_COMPACT_STRINGS O0 hcs V_b497 as_514 E_b494 F_coder_b494 g_b494 F_value_b494) hZ (tw17 hw) (tw6 hw) (by decide) (by decide) (own_EW hw) CH0.1) (g := (mkF m 6 #[vr b494, vr b497] [.null, cv1, cv0, (.ref b497), (.ref b494)])) rfl (by rw [hml]; rfl) (Steps.refl _) (a := b494) (argsL := [(.ref b497), cv0, cv1, .null]) (rest := []) (lenOf pd_1 rfl) rfl (Nat.le_of_eq rfl) (hb hby d4_6) (fun _ _ => ⟨rfl, e0, (by decide : 0 + 1 ≤ _), (by decide : 0 + 1 ≤ _)⟩)
  dsimp only [Pt.U, Pt.locs, Pt.cells, Pt.slots] at X557s hs557 hg557 l557 y557 z557 st557 hQ557 ch557
  subst l557 y557 z557
  obtain ⟨X557, hS557, hZ557, hown557⟩ := rebS hS0 (by rw [e0]; exact (Nat.le_refl _)) X557s hs557 hg557 hZ hown
  obtain ⟨uu26, uu27, rfl, N557q, K557, P557_0, P557_1, P557_2, P557_3⟩ := hQ557
  have N558 := Fr.app N0 N557q
  have f559 := CH0.trans ch557
  refine GoH.step (fun _ k => st557.trans k) ?_
  show GoH p e below s _ _ _ T557 (mkF m 9 #[vr b494, vr b497] [])
  have f560 := ((Keep.refl h0 [b494]).trans K557 (allS (Or.inl (List.mem_of_getElem? (i := 0) rfl)) all0))
  have z561 := Nat.le_trans (Nat.le_refl _) P557_2
  exact GoH.retV X557 hS557 hx hlk Bd.returns (hb hby d4_9) rfl (Nat.le_refl _) ⟨uu26, uu27, rfl, N558, f560, P557_0, P557_1, z561, P557_3⟩ (f559.trans (CHv.at X557 hZ557 (own_EW hw) f559.1)) (by decide) (by decide)

theorem ef_ObjectRefToStringPinLaw_make_1 (m : MethodId) (x0 : Int32) (x1 : Int32) : entryFrame m #[(.int x0), (.int x1)] 2 = mkF m 0 #[vi x0, vi x1] [] := by first | (simp [entryFrame, mkF, argsToLocals, Value.category]; done) | rfl
def Q_ObjectRefToStringPinLaw_make_1 (Z : State) (p2 : Int32) (cs : Int32) (h0 : Heap) (n0 : Nat) (v : Option Value) (h : Heap) (L : List Loc) : Prop := ∃ (b494 : Addr) (uu28 : Addr) (uu29 : ClassId), v = some (.ref b494) ∧ Fr n0 L ∧ Keep h0 h [] ∧ h0.size ≤ b494 ∧ Exa Z h b494 xs25 ∧ Fld Z h b494 xs25 "coder" "B" cv0 ∧ Fld Z h b494 xs25 "value" "[B" (.ref uu28) ∧ h0.size ≤ uu28 ∧ Arv Z h uu28 uu29 .byte ci1 [(.int (nar .byte ((nar .char (own_ch p2 ci0)).toInt8.toInt32)))] cv0 ∧ b494 ≠ uu28
set_option maxRecDepth 65536 in
set_option maxHeartbeats 40000000 in
theorem rm_ObjectRefToStringPinLaw_make_1 (l : Launch) (Z : State) (a0 : Array Value) (hw : ∀ d ∈ tables_1, d.before a0 Z = true) (ws : List Jvm.Cond) (p2 : Int32) (cs : Int32) (h0 : Heap) (n0 : Nat) (Z0 : n0 ≤ h0.size) (Z_S_COMPACT_STRINGS : Sta Z Z.heap xs25 xs28 "Z" (.int cs)) (O0 : Old Z n0 h0) (hcs : ¬ cs = ci0) (as_514 : ¬ ci255 < (nar .char (own_ch p2 ci0))) :
    MetFree l xm33 (head1 (Jvm.Cond.code xm33 method_5_code 2 (some (.object xs25)) :: ws) xr26) (fun a U => a = #[(.int p2), cv1] ∧ Z.Warmed39 U.vm ∧ U.heap = h0 ∧ CHv Z consts_1 U.vm h0) (fun _ _ _ _ _ => True) (fun _ U o U' => ∃ v L, o = .returned v ∧ Q_ObjectRefToStringPinLaw_make_1 Z p2 cs h0 n0 v U'.heap L ∧ CHr Z consts_1 U.vm U.heap U'.vm U'.heap ∧ ReturnedEndW U o U' L xr26.cells xr26.slots) := by
  refine MetFree.of_bodySF (plainFor_of_name pn_2) hisR ?_
  intro p e s m args below meth c s₁ Bd hml0 hP hK
  obtain ⟨rfl, hZ, hh, hCH⟩ := hP
  have hx := Bd.exec
  have hby := Bd.bytes
  have hlk : meth.locks = false := BodyLoose.notSynchronized Bd
  have hml : c.maxLocals = 2 := hml0
  have hown : s.vm.findClass xs0 = some m.cls := findClass_of_methodNamed Bd.named
  have hnm := (name_of_methodNamed Bd.named Bd.method).1
  have X0 : Stand p l e xr26 (s.setVm s.vm) m #[(.int p2), cv1] below meth c s₁ [] 0 0 := Stand.of_body Bd
  have e0 : s₁.heap = h0 := by rw [← hh, Bd.state]; rfl
  have N0 := Fr.nil n0
  have hS0 : s.Since s.vm h0.size := (State.WarmedH.refl s).since _
  have CH0 : CHr Z consts_1 s.vm s.heap s.vm h0 := by rw [hh]; exact CHr.refl hCH
  have hZ_0 := hZ
  show GoH p e below s (((Q_ObjectRefToStringPinLaw_make_1 Z p2 cs h0 n0, fun vm h => CHr Z consts_1 s.vm s.heap vm h) : (Option Value → Heap → List Loc → Prop) × (Vm → Heap → Prop))) xr26.cells xr26.slots s₁ (entryFrame m #[(.int p2), cv1] 2)
  refine GoH.cast (ef_ObjectRefToStringPinLaw_make_1 m p2 ci1) ?_
  show GoH p e below s _ _ _ s₁ (mkF m 0 #[vi p2, .val cv1] [])
  refine GoH.step (fun _ k => XS.iloadN X0.here hx rfl (hb hby d3_0) rfl (XS.ifYes X0.here hx rfl (pc0 := 1) (pc' := 15) rfl (hb hby d3_1) rfl ((if0 _ _).trans (feq (by decide)).2) (by decide) (by decide) (XS.iloadN X0.here hx rfl (hb hby d3_15) rfl (XS.iconst X0.here hx rfl (hb hby d3_16) (XS.icmpNo X0.here hx rfl (hb hby d3_17) rfl (teq (by decide)).2 k))))) ?_
  show GoH p e below s _ _ _ s₁ (mkF m 20 #[vi p2, .val cv1] [])
  obtain ⟨T494, h494, X494, e494, E494, A494, D494, -, st494⟩ := newO X0 hx hZ hown (tw4 hw) (tw5 hw) (tw6 hw) e0 (g := (mkF m 20 #[vi p2, .val cv1] [])) rfl (hb hby d3_20) (by decide) (by decide)
  obtain ⟨b494, g494⟩ : ∃ z, z = h0.size := ⟨_, rfl⟩
  rw [← g494] at A494 D494 st494
  have f495 : Fld Z h494 b494 xs25 "coder" "B" cv0 := D494 (Or.inr (tw34 hw)) (ty := .byte) (by decide)
  have f496 : Fld Z h494 b494 xs25 "value" "[B" .null := D494 (Or.inr (tw36 hw)) (ty := (.array .byte)) (by decide)
  refine GoH.step (fun _ k => st494 _ (XS.dup X494.here hx rfl (hb hby d3_23) rfl rfl (XS.iconst X494.here hx rfl (hb hby d3_24) k))) ?_
  show GoH p e below s _ _ _ T494 (mkF m 25 #[vi p2, .val cv1] [cv1, (.ref b494), (.ref b494)])
  obtain ⟨T497, h497, k497, X497, e497, E497, A497, st497⟩ := newP (aty := .char) X494 hx hZ (tw7 hw) e494 (g := (mkF m 25 #[vi p2, .val cv1] [cv1, (.ref b494), (.ref b494)])) rfl (hb hby d3_25) rfl (by decide) (cap := 1) (by decide) (by decide) (by decide) (by decide)
  obtain ⟨b497, g497⟩ : ∃ z, z = h494.size := ⟨_, rfl⟩
  rw [← g497] at A497 st497
  have f498 : Arv Z h497 b497 k497 .char ci1 [cv0] cv0 := (Arv.new A497 (by decide)).pad (pad_rep [] cv0 1)
  refine GoH.step (fun _ k => st497 _ (XS.dup X497.here hx rfl (hb hby d3_27) rfl rfl (XS.iconst X497.here hx rfl (hb hby d3_28) (XS.iloadN X497.here hx rfl (hb hby d3_29) rfl (XS.iconst X497.here hx rfl (hb hby d3_30) k))))) ?_
  show GoH p e below s _ _ _ T497 (mkF m 31 #[vi p2, .val cv1] [cv0, (.int p2), cv0, (.ref b497), (.ref b497), (.ref b494), (.ref b494)])
  have f499 := (Nat.le_trans (Nat.le_trans Z0 E494.1) E497.1)
  obtain ⟨_, _, ⟨T500, L500, k500, n500⟩, -, X500, ⟨Lc500, hQ500, l500, y500, z500⟩, st500⟩ := Jvm.LawKit.callS X497 hx (y := xm30) hown (mvT hZ (tw8 hw)) (mvT hZ (tw9 hw)) (mvT hZ (tw2 hw)) (mvT hZ (tw10 hw)) (by decide) (backOf (W := 5) (rm_ch l Z a0 hw [] p2 ci0 h497 n0 f499) hZ (tw10 hw) (tw2 hw) (by decide) (by decide)) (g := (mkF m 31 #[vi p2, .val cv1] [cv0, (.int p2), cv0, (.ref b497), (.ref b497), (.ref b494), (.ref b494)])) rfl (by rw [hml]; rfl) (argsL := [(.int p2), cv0]) (rest := [cv0, (.ref b497), (.ref b497), (.ref b494), (.ref b494)]) (lenOf pd_25 rfl) rfl (Nat.le_of_eq rfl) (hb hby d3_31) (fun _ _ => ⟨rfl, e497, (by decide : 2 + 0 ≤ _), (by decide : 5 + 0 ≤ _)⟩)
  dsimp only [Pt.U, Pt.locs, Pt.cells, Pt.slots] at X500 l500 y500 z500 st500 hQ500
  subst l500 y500 z500
  obtain ⟨rfl, N500q, eq500⟩ := hQ500
  have N501 := Fr.app N0 N500q
  refine GoH.step (fun _ k => st500 _ k) ?_
  show GoH p e below s _ _ _ T500 (mkF m 34 #[vi p2, .val cv1] [(.int (own_ch p2 ci0)), cv0, (.ref b497), (.ref b497), (.ref b494), (.ref b494)])
  obtain ⟨cl502, Ar502, qq502, Sz502, Ng502, Hs502, Ft502⟩ := id f498
  have in502 : ¬ (ci0 < 0 ∨ cl502.slots.size ≤ (ci0).toNatClampNeg) := (inb_of Sz502 ⟨by decide, by decide⟩)
  obtain ⟨T502, h502, X502, e502, W502, st502⟩ := stC X500 hx hZ eq500 Ar502 (j := ci0) in502 (g := (mkF m 34 #[vi p2, .val cv1] [(.int (own_ch p2 ci0)), cv0, (.ref b497), (.ref b497), (.ref b494), (.ref b494)])) rfl rfl (hb hby d3_34)
  have f503 := (Nat.le_trans Z0 E494.1)
  have g504 := Nat.le_trans f503 (Nat.le_of_eq g497.symm)
  have f505 : Arv Z h502 b497 k497 .char ci1 [(.int (nar .char (own_ch p2 ci0)))] cv0 := Arv.set Ar502 qq502 Sz502 Ng502 Hs502 Ft502 (fits_nar_char _) W502 0 rfl (Nat.le_of_ble_eq_true rfl)
  have N506 := Fr.snoc X502 N501 g504
  refine GoH.step (fun _ k => st502 _ k) ?_
  show GoH p e below s _ _ _ T502 (mkF m 35 #[vi p2, .val cv1] [(.ref b497), (.ref b494), (.ref b494)])
  have g538 := Nat.le_trans Z0 (Nat.le_of_eq g494.symm)
  have f562 := (((O0.ext E494).ext E497).wr W502 g504)
  have f563 := (Nat.le_trans f499 (Keep.of_wr W502).1)
  have f564 := ((A494.ext E497).wr W502)
  have ne565 : b494 ≠ b497 := Nat.ne_of_lt (Nat.lt_of_lt_of_le A494.lt (Nat.le_of_eq g497.symm))
  have f566 := ((f495.ext E497).other W502 (Or.inl ne565))
  have f567 := ((f496.ext E497).other W502 (Or.inl ne565))
  have f569 := (own_chW (own_chE (own_chE CH0 E494) E497) W502 (Safe.arv hZ_0.alike f498 (by simp)))
  obtain ⟨_, _, ⟨T568, L568, k568, n568⟩, -, X568s, hs568, hg568, ⟨Lc568, hQ568, l568, y568, z568, ch568⟩, st568⟩ := X502.specialBackS hx (y := xm8) rfl hown (mvT hZ (tw11 hw)) (mvT hZ (tw12 hw)) (mvT hZ (tw13 hw)) (by decide) (backOfSH (W := 1) (rm_String_new_4 l Z a0 hw [] b494 b497 k497 (nar .char (own_ch p2 ci0)) cs h502 n0 f563 f505 Z_S_COMPACT_STRINGS f562 hcs as_514 f564 f566 g538 f567) hZ (tw13 hw) (tw6 hw) (by decide) (by decide) (own_EW hw) f569.1) (g := (mkF m 35 #[vi p2, .val cv1] [(.ref b497), (.ref b494), (.ref b494)])) rfl (by rw [hml]; rfl) (Steps.refl _) (a := b494) (argsL := [(.ref b497)]) (rest := [(.ref b494)]) (lenOf pd_2 rfl) rfl (Nat.le_of_eq rfl) (hb hby d3_35) (fun _ _ => ⟨rfl, e502, (by decide : 2 + 1 ≤ _), (by decide : 5 + 1 ≤ _)⟩)
  dsimp only [Pt.U, Pt.locs, Pt.cells, Pt.slots] at X568s hs568 hg568 l568 y568 z568 st568 hQ568 ch568
  subst l568 y568 z568
  have f570 := (Nat.le_trans (Nat.le_trans (Nat.le_trans (Nat.le_refl _) E494.1) E497.1) (Keep.of_wr W502).1)
  obtain ⟨X568, hS568, hZ568, hown568⟩ := rebS hS0 (by rw [e502]; exact f570) X568s hs568 hg568 hZ hown
  obtain ⟨uu28, uu29, rfl, N568q, K568, P568_0, P568_1, P568_2, P568_3⟩ := hQ568
  have N571 := Fr.app N506 N568q
  have f572 := f569.trans ch568
  refine GoH.step (fun _ k => st568.trans k) ?_
  show GoH p e below s _ _ _ T568 (mkF m 38 #[vi p2, .val cv1] [(.ref b494)])
  have f573 := (Nat.le_trans (Nat.le_refl _) E494.1)
  have z574 := Nat.le_trans f573 (Nat.le_of_eq g497.symm)
  have z575 := Nat.le_trans (Nat.le_refl _) (Nat.le_of_eq g494.symm)
  have f576 := (((((Keep.refl h0 []).ext E494).ext E497).wr W502 (Or.inr z574)).trans K568 (allS (Or.inr z575) all0))
  have f577 := (f564.keep K568)
  have f578 := (Nat.le_trans (Nat.le_trans f573 E497.1) (Keep.of_wr W502).1)
  have z579 := Nat.le_trans f578 P568_2
  have ne580 : b494 ≠ uu28 := Nat.ne_of_lt (Nat.lt_of_lt_of_le f564.lt P568_2)
  exact GoH.retA X568 hS568 hx hlk Bd.returns rfl rfl (hb hby d3_38) rfl (Nat.le_refl _) ⟨b494, uu28, uu29, rfl, N571, f576, z575, f577, P568_0, P568_1, z579, P568_3, ne580⟩ (f572.trans (CHv.at X568 hZ568 (own_EW hw) f572.1)) (by decide) (by decide)

theorem ef_ObjectRefToStringPinLaw_ok_2 (m : MethodId) (x0 : Addr) (x1 : Int32) (x2 : Int32) (x3 : Int32) (x4 : Int32) (x5 : Int32) : entryFrame m #[(.ref x0), (.int x1), (.int x2), (.int x3), (.int x4), (.int x5)] 7 = mkF m 0 #[vr x0, vi x1, vi x2, vi x3, vi x4, vi x5, .unset] [] := by first | (simp [entryFrame, mkF, argsToLocals, Value.category]; done) | rfl
def Q_ObjectRefToStringPinLaw_ok_2 (Z : State) (uu30 : Addr) (n623 : Int32) (n624 : Int32) (n625 : Int32) (p1 : Int32) (p2 : Int32) (uu31 : Addr) (uu32 : ClassId) (n631 : Int32) (l632 : List Value) (x633 : Int32) (cs : Int32) (fv : Value) (h0 : Heap) (n0 : Nat) (v : Option Value) (h : Heap) (L : List Loc) : Prop := v = some cv1 ∧ Fr n0 L ∧ h = h0
set_option maxRecDepth 65536 in
set_option maxHeartbeats 40000000 in
theorem rm_ObjectRefToStringPinLaw_ok_2 (l : Launch) (Z : State) (a0 : Array Value) (hw : ∀ d ∈ tables_1, d.before a0 Z = true) (ws : List Jvm.Cond) (uu30 : Addr) (n623 : Int32) (n624 : Int32) (n625 : Int32) (p1 : Int32) (p2 : Int32) (uu31 : Addr) (uu32 : ClassId) (n631 : Int32) (l632 : List Value) (x633 : Int32) (cs : Int32) (fv : Value) (h0 : Heap) (n0 : Nat) (Z0 : n0 ≤ h0.size) (d_626 : n623 < n624) (d_627 : ¬ n623 < n625) (d_628 : ¬ n623 = n625) (E_b267_404_610 : Exa Z h0 uu30 xs25) (F_coder_b267_404_610 : Fld Z h0 uu30 xs25 "coder" "B" cv0) (F_value_b267_404_610 : Fld Z h0 uu30 xs25 "value" "[B" (.ref uu31)) (V_b297_325_341_364_384_404_610 : Arv Z h0 uu31 uu32 .byte n631 l632 cv0) (pk_634 : (l632 : List Value).getD (n623).toNatClampNeg cv0 = .int x633) (Z_S_COMPACT_STRINGS : Sta Z Z.heap xs25 xs28 "Z" (.int cs)) (Z_S_SIOOBE_FORMATTER : Sta Z Z.heap xs7 xs24 xs8 fv) (O0 : Old Z n0 h0) (hcs : ¬ cs = ci0) (hfv : fv.isRef = true) (d_635 : ¬ n623 < ci0) (d_636 : n623 < n631) (as_639 : (nar .char (nar .char ((x633 &&& ci255).toUInt32.toUInt16.toUInt32.toInt32))) = (own_ch p2 (((n623 - n625) - ci1)))) :
    MetFree l xm36 (head1 (Jvm.Cond.code xm36 method_3_code 7 (some .boolean) :: ws) xr22) (fun a U => a = #[(.ref uu30), (.int n623), (.int n624), (.int n625), (.int p1), (.int p2)] ∧ Z.Warmed39 U.vm ∧ U.heap = h0) (fun _ _ _ _ _ => True) (fun _ U o U' => ∃ v L, o = .returned v ∧ Q_ObjectRefToStringPinLaw_ok_2 Z uu30 n623 n624 n625 p1 p2 uu31 uu32 n631 l632 x633 cs fv h0 n0 v U'.heap L ∧ FrameEnd U o U' L xr22.cells xr22.slots) := by
  refine MetFree.of_bodySF (plainFor_of_name pn_2) hisR ?_
  intro p e s m args below meth c s₁ Bd hml0 hP hK
  obtain ⟨rfl, hZ, hh⟩ := hP
  have hx := Bd.exec
  have hby := Bd.bytes
  have hlk : meth.locks = false := BodyLoose.notSynchronized Bd
  have hml : c.maxLocals = 7 := hml0
  have hown : s.vm.findClass xs0 = some m.cls := findClass_of_methodNamed Bd.named
  have hnm := (name_of_methodNamed Bd.named Bd.method).1
  have X0 : Stand p l e xr22 s m #[(.ref uu30), (.int n623), (.int n624), (.int n625), (.int p1), (.int p2)] below meth c s₁ [] 0 0 := Stand.of_body Bd
  have e0 : s₁.heap = h0 := by rw [← hh, Bd.state]; rfl
  have N0 := Fr.nil n0
  show Go p e below s (Q_ObjectRefToStringPinLaw_ok_2 Z uu30 n623 n624 n625 p1 p2 uu31 uu32 n631 l632 x633 cs fv h0 n0) xr22.cells xr22.slots s₁ (entryFrame m #[(.ref uu30), (.int n623), (.int n624), (.int n625), (.int p1), (.int p2)] 7)
  refine Go.cast (ef_ObjectRefToStringPinLaw_ok_2 m uu30 n623 n624 n625 p1 p2) ?_
  show Go p e below s _ _ _ s₁ (mkF m 0 #[vr uu30, vi n623, vi n624, vi n625, vi p1, vi p2, .unset] [])
  refine Go.step (fun _ k => XS.iloadN X0.here hx rfl (hb hby d30_0) rfl (XS.iloadN X0.here hx rfl (hb hby d30_1) rfl (XS.icmpYes X0.here hx rfl (pc0 := 2) (pc' := 7) rfl (hb hby d30_2) rfl (tlt d_626).1 (by decide) (by decide) (XS.iloadN X0.here hx rfl (hb hby d30_7) rfl (XS.iloadN X0.here hx rfl (hb hby d30_8) rfl (XS.icmpYes X0.here hx rfl (pc0 := 9) (pc' := 23) rfl (hb hby d30_9) rfl (flt d_627).2.1 (by decide) (by decide) (XS.iloadN X0.here hx rfl (hb hby d30_23) rfl (XS.iloadN X0.here hx rfl (hb hby d30_24) rfl (XS.icmpYes X0.here hx rfl (pc0 := 25) (pc' := 35) rfl (hb hby d30_25) rfl (feq d_628).2 (by decide) (by decide) (XS.iload X0.here hx rfl (hb hby d30_35) rfl k)))))))))) ?_
  show Go p e below s _ _ _ s₁ (mkF m 37 #[vr uu30, vi n623, vi n624, vi n625, vi p1, vi p2, .unset] [(.int p2)])
  refine Go.step (fun _ k => XS.iloadN X0.here hx rfl (hb hby d30_37) rfl (XS.iloadN X0.here hx rfl (hb hby d30_38) rfl (XS.isub X0.here hx rfl (hb hby d30_39) rfl (XS.iconst X0.here hx rfl (hb hby d30_40) (XS.isub X0.here hx rfl (hb hby d30_41) rfl k))))) ?_
  show Go p e below s _ _ _ s₁ (mkF m 42 #[vr uu30, vi n623, vi n624, vi n625, vi p1, vi p2, .unset] [(.int ((n623 - n625) - ci1)), (.int p2)])
  obtain ⟨_, _, ⟨T629, L629, k629, n629⟩, -, X629, ⟨Lc629, hQ629, l629, y629, z629⟩, st629⟩ := Jvm.LawKit.callS X0 hx (y := xm30) hown (mvT hZ (tw8 hw)) (mvT hZ (tw9 hw)) (mvT hZ (tw2 hw)) (mvT hZ (tw10 hw)) (by decide) (backOf (W := 0) (rm_ch l Z a0 hw [] p2 (((n623 - n625) - ci1)) h0 n0 Z0) hZ (tw10 hw) (tw2 hw) (by decide) (by decide)) (g := (mkF m 42 #[vr uu30, vi n623, vi n624, vi n625, vi p1, vi p2, .unset] [(.int ((n623 - n625) - ci1)), (.int p2)])) rfl (by rw [hml]; rfl) (argsL := [(.int p2), (.int ((n623 - n625) - ci1))]) (rest := []) (lenOf pd_25 rfl) rfl (Nat.le_of_eq rfl) (hb hby d30_42) (fun _ _ => ⟨rfl, e0, (by decide : 0 + 0 ≤ _), (by decide : 0 + 0 ≤ _)⟩)
  dsimp only [Pt.U, Pt.locs, Pt.cells, Pt.slots] at X629 l629 y629 z629 st629 hQ629
  subst l629 y629 z629
  obtain ⟨rfl, N629q, eq629⟩ := hQ629
  have N630 := Fr.app N0 N629q
  refine Go.step (fun _ k => st629 _ (XS.istore X629.here hx rfl (hb hby d30_45) rfl (l' := #[vr uu30, vi n623, vi n624, vi n625, vi p1, vi p2, .val (.int (own_ch p2 (((n623 - n625) - ci1))))]) rfl (XS.aloadN X629.here hx rfl (hb hby d30_47) rfl rfl (XS.iloadN X629.here hx rfl (hb hby d30_48) rfl k)))) ?_
  show Go p e below s _ _ _ T629 (mkF m 49 #[vr uu30, vi n623, vi n624, vi n625, vi p1, vi p2, .val (.int (own_ch p2 (((n623 - n625) - ci1))))] [(.int n623), (.ref uu30)])
  obtain ⟨cq637, kq637, q637a, q637b, q637c⟩ := isOf hZ eq629 E_b267_404_610
  obtain ⟨_, _, ⟨T637, L637, k637, n637⟩, -, X637, ⟨Lc637, hQ637, l637, y637, z637⟩, st637⟩ := X629.virtualBack hx (y := xm15) (z := xm15) hown (mvT hZ (tw176 hw)) (mvT hZ (tw177 hw)) (notFace_of_selects (args := #[]) (mvT hZ (tw179 hw))) (mvT hZ (tw179 hw)) (mvT hZ (tw178 hw)) (by decide) (backOf (W := 0) (rm_String_charAt_0 l Z a0 hw [] uu30 n623 cs uu31 uu32 n631 l632 fv x633 h0 n0 Z0 E_b267_404_610 Z_S_COMPACT_STRINGS O0 hcs F_coder_b267_404_610 F_value_b267_404_610 V_b297_325_341_364_384_404_610 Z_S_SIOOBE_FORMATTER hfv pk_634 d_635 d_636) hZ (tw180 hw) (tw6 hw) (by decide) (by decide)) q637a q637c (g := (mkF m 49 #[vr uu30, vi n623, vi n624, vi n625, vi p1, vi p2, .val (.int (own_ch p2 (((n623 - n625) - ci1))))] [(.int n623), (.ref uu30)])) rfl (by rw [hml]; rfl) (Steps.refl _) (argsL := [(.int n623)]) (rest := []) (lenOf pd_23 rfl) rfl (Nat.le_of_eq rfl) (hb hby d30_49) (fun _ _ => ⟨rfl, eq629, (by decide : 0 + 0 ≤ _), (by decide : 0 + 0 ≤ _)⟩)
  dsimp only [Pt.U, Pt.locs, Pt.cells, Pt.slots] at X637 l637 y637 z637 st637 hQ637
  subst l637 y637 z637
  obtain ⟨rfl, N637q, eq637⟩ := hQ637
  have N638 := Fr.app N630 N637q
  refine Go.step (fun _ k => st637.trans (XS.iload X637.here hx rfl (hb hby d30_52) rfl (XS.icmpNo X637.here hx rfl (hb hby d30_54) rfl (teq as_639).2 (XS.iconst X637.here hx rfl (hb hby d30_57) (XS.goto X637.here hx rfl (pc0 := 58) (pc' := 62) rfl (hb hby d30_58) (by decide) (by decide) k))))) ?_
  show Go p e below s _ _ _ T637 (mkF m 62 #[vr uu30, vi n623, vi n624, vi n625, vi p1, vi p2, .val (.int (own_ch p2 (((n623 - n625) - ci1))))] [cv1])
  exact Go.retN X637 hx hlk (t := .boolean) Bd.returns (by simp) (hb hby d30_62) eq637 ⟨rfl, N638, rfl⟩ (by decide) (by decide)

theorem ef_StringUTF16_compress_3 (m : MethodId) (x0 : Addr) (x1 : Int32) (x2 : Addr) (x3 : Int32) (x4 : Int32) : entryFrame m #[(.ref x0), (.int x1), (.ref x2), (.int x3), (.int x4)] 7 = mkF m 0 #[vr x0, vi x1, vr x2, vi x3, vi x4, .unset, .unset] [] := by first | (simp [entryFrame, mkF, argsToLocals, Value.category]; done) | rfl
def Q_StringUTF16_compress_3 (Z : State) (b655 : Addr) (b676 : Addr) (k655 : ClassId) (v671 : Int32) (v672 : Int32) (k676 : ClassId) (h0 : Heap) (n0 : Nat) (v : Option Value) (h : Heap) (L : List Loc) : Prop := v = some cv2 ∧ Fr n0 L ∧ Keep h0 h [b676] ∧ Arv Z h b676 k676 .byte ci2 [(.int (nar .byte (v671.toInt8.toInt32))), (.int (nar .byte (v672.toInt8.toInt32)))] cv0
set_option maxRecDepth 65536 in
set_option maxHeartbeats 40000000 in
theorem rm_StringUTF16_compress_3 (l : Launch) (Z : State) (a0 : Array Value) (hw : ∀ d ∈ tables_1, d.before a0 Z = true) (ws : List Jvm.Cond) (b655 : Addr) (b676 : Addr) (k655 : ClassId) (v671 : Int32) (v672 : Int32) (k676 : ClassId) (h0 : Heap) (n0 : Nat) (Z0 : n0 ≤ h0.size) (V_b655 : Arv Z h0 b655 k655 .char ci2 [(.int v671), (.int v672)] cv0) (as_679 : ¬ ci255 < v671) (V_b676 : Arv Z h0 b676 k676 .byte ci2 [cv0, cv0] cv0) (g_b676 : n0 ≤ b676) (ne_b655_b676 : b655 ≠ b676) (as_687 : ¬ ci255 < v672) :
    MetFree l xm1 (head1 (Jvm.Cond.code xm1 jdk_52_method_21_code 7 (some .int) :: ws) xr34) (fun a U => a = #[(.ref b655), cv0, (.ref b676), cv0, cv2] ∧ Z.Warmed39 U.vm ∧ U.heap = h0) (fun _ _ _ _ _ => True) (fun _ U o U' => ∃ v L, o = .returned v ∧ Q_StringUTF16_compress_3 Z b655 b676 k655 v671 v672 k676 h0 n0 v U'.heap L ∧ FrameEnd U o U' L xr34.cells xr34.slots) := by
  refine MetFree.of_bodySF (plainFor_of_name pn_9) hisR ?_
  intro p e s m args below meth c s₁ Bd hml0 hP hK
  obtain ⟨rfl, hZ, hh⟩ := hP
  have hx := Bd.exec
  have hby := Bd.bytes
  have hlk : meth.locks = false := BodyLoose.notSynchronized Bd
  have hml : c.maxLocals = 7 := hml0
  have hown : s.vm.findClass xs19 = some m.cls := findClass_of_methodNamed Bd.named
  have hnm := (name_of_methodNamed Bd.named Bd.method).1
  have X0 : Stand p l e xr34 s m #[(.ref b655), cv0, (.ref b676), cv0, cv2] below meth c s₁ [] 0 0 := Stand.of_body Bd
  have e0 : s₁.heap = h0 := by rw [← hh, Bd.state]; rfl
  have N0 := Fr.nil n0
  show Go p e below s (Q_StringUTF16_compress_3 Z b655 b676 k655 v671 v672 k676 h0 n0) xr34.cells xr34.slots s₁ (entryFrame m #[(.ref b655), cv0, (.ref b676), cv0, cv2] 7)
  refine Go.cast (ef_StringUTF16_compress_3 m b655 ci0 b676 ci0 ci2) ?_
  show Go p e below s _ _ _ s₁ (mkF m 0 #[vr b655, .val cv0, vr b676, .val cv0, .val cv2, .unset, .unset] [])
  refine Go.step (fun _ k => XS.iconst X0.here hx rfl (hb hby d35_0) (XS.istore X0.here hx rfl (hb hby d35_1) rfl (l' := #[vr b655, .val cv0, vr b676, .val cv0, .val cv2, .val cv0, .unset]) rfl (XS.iload X0.here hx rfl (hb hby d35_3) rfl (XS.iload X0.here hx rfl (hb hby d35_5) rfl (XS.icmpNo X0.here hx rfl (hb hby d35_7) rfl (tlt (by decide)).2.1 (XS.aloadN X0.here hx rfl (hb hby d35_10) rfl rfl (XS.iloadN X0.here hx rfl (hb hby d35_11) rfl k))))))) ?_
  show Go p e below s _ _ _ s₁ (mkF m 12 #[vr b655, .val cv0, vr b676, .val cv0, .val cv2, .val cv0, .unset] [cv0, (.ref b655)])
  obtain ⟨cl678, Ar678, -, Sz678, Ng678, Hs678, Ft678⟩ := id V_b655
  have in678 : ¬ (ci0 < 0 ∨ cl678.slots.size ≤ (ci0).toNatClampNeg) := (inb_of Sz678 ⟨by decide, by decide⟩)
  have at678 : cl678.slots[(ci0).toNatClampNeg]? = some (.int v671) := Hs678.at in678 rfl
  refine Go.step (fun _ k => X0.caload hx (j := ci0) (v := (.int v671)) (by rw [e0]; exact Ar678.1) (State.isArrayOf_alike hZ.alike Ar678.2.1) Ar678.2.2 in678 at678 (g := (mkF m 12 #[vr b655, .val cv0, vr b676, .val cv0, .val cv2, .val cv0, .unset] [cv0, (.ref b655)])) rfl rfl (hb hby d35_12) _ (XS.istore X0.here hx rfl (hb hby d35_13) rfl (l' := #[vr b655, .val cv0, vr b676, .val cv0, .val cv2, .val cv0, vi v671]) rfl (XS.iload X0.here hx rfl (hb hby d35_15) rfl (XS.sipush X0.here hx rfl (hb hby d35_17) (XS.icmpYes X0.here hx rfl (pc0 := 20) (pc' := 26) rfl (hb hby d35_20) rfl (flt as_679).2.2.2 (by decide) (by decide) (XS.aloadN X0.here hx rfl (hb hby d35_26) rfl rfl (XS.iloadN X0.here hx rfl (hb hby d35_27) rfl (XS.iload X0.here hx rfl (hb hby d35_28) rfl (XS.i2b X0.here hx rfl (hb hby d35_30) rfl k))))))))) ?_
  show Go p e below s _ _ _ s₁ (mkF m 31 #[vr b655, .val cv0, vr b676, .val cv0, .val cv2, .val cv0, vi v671] [(.int (v671.toInt8.toInt32)), cv0, (.ref b676)])
  obtain ⟨cl680, Ar680, qq680, Sz680, Ng680, Hs680, Ft680⟩ := id V_b676
  have in680 : ¬ (ci0 < 0 ∨ cl680.slots.size ≤ (ci0).toNatClampNeg) := (inb_of Sz680 ⟨by decide, by decide⟩)
  obtain ⟨T680, h680, X680, e680, W680, st680⟩ := stB X0 hx hZ e0 Ar680 (j := ci0) in680 (g := (mkF m 31 #[vr b655, .val cv0, vr b676, .val cv0, .val cv2, .val cv0, vi v671] [(.int (v671.toInt8.toInt32)), cv0, (.ref b676)])) rfl rfl (hb hby d35_31)
  have f682 : Arv Z h680 b676 k676 .byte ci2 [(.int (nar .byte (v671.toInt8.toInt32))), cv0] cv0 := Arv.set Ar680 qq680 Sz680 Ng680 Hs680 Ft680 (fits_nar_byte _) W680 0 rfl (Nat.le_of_ble_eq_true rfl)
  have N683 := Fr.snoc X680 N0 g_b676
  refine Go.step (fun _ k => st680 _ (XS.iinc X680.here hx rfl (hb hby d35_32) rfl (l' := #[vr b655, .val (.int (ci0 + ci1)), vr b676, .val cv0, .val cv2, .val cv0, vi v671]) rfl (XS.iinc X680.here hx rfl (hb hby d35_35) rfl (l' := #[vr b655, .val cv1, vr b676, .val (.int (ci0 + ci1)), .val cv2, .val cv0, vi v671]) rfl (XS.iinc X680.here hx rfl (hb hby d35_38) rfl (l' := #[vr b655, .val cv1, vr b676, .val cv1, .val cv2, .val (.int (ci0 + ci1)), vi v671]) rfl (XS.goto X680.here hx rfl (pc0 := 41) (pc' := 3) rfl (hb hby d35_41) (by decide) (by decide) (XS.iload X680.here hx rfl (hb hby d35_3) rfl (XS.iload X680.here hx rfl (hb hby d35_5) rfl (XS.icmpNo X680.here hx rfl (hb hby d35_7) rfl (tlt (by decide)).2.1 (XS.aloadN X680.here hx rfl (hb hby d35_10) rfl rfl (XS.iloadN X680.here hx rfl (hb hby d35_11) rfl k)))))))))) ?_
  show Go p e below s _ _ _ T680 (mkF m 12 #[vr b655, .val cv1, vr b676, .val cv1, .val cv2, .val cv1, vi v671] [cv1, (.ref b655)])
  have f685 := (V_b655.other W680 ne_b655_b676)
  obtain ⟨cl686, Ar686, -, Sz686, Ng686, Hs686, Ft686⟩ := id f685
  have in686 : ¬ (ci1 < 0 ∨ cl686.slots.size ≤ (ci1).toNatClampNeg) := (inb_of Sz686 ⟨by decide, by decide⟩)
  have at686 : cl686.slots[(ci1).toNatClampNeg]? = some (.int v672) := Hs686.at in686 rfl
  refine Go.step (fun _ k => X680.caload hx (j := ci1) (v := (.int v672)) (by rw [e680]; exact Ar686.1) (State.isArrayOf_alike hZ.alike Ar686.2.1) Ar686.2.2 in686 at686 (g := (mkF m 12 #[vr b655, .val cv1, vr b676, .val cv1, .val cv2, .val cv1, vi v671] [cv1, (.ref b655)])) rfl rfl (hb hby d35_12) _ (XS.istore X680.here hx rfl (hb hby d35_13) rfl (l' := #[vr b655, .val cv1, vr b676, .val cv1, .val cv2, .val cv1, vi v672]) rfl (XS.iload X680.here hx rfl (hb hby d35_15) rfl (XS.sipush X680.here hx rfl (hb hby d35_17) (XS.icmpYes X680.here hx rfl (pc0 := 20) (pc' := 26) rfl (hb hby d35_20) rfl (flt as_687).2.2.2 (by decide) (by decide) (XS.aloadN X680.here hx rfl (hb hby d35_26) rfl rfl (XS.iloadN X680.here hx rfl (hb hby d35_27) rfl (XS.iload X680.here hx rfl (hb hby d35_28) rfl (XS.i2b X680.here hx rfl (hb hby d35_30) rfl k))))))))) ?_
  show Go p e below s _ _ _ T680 (mkF m 31 #[vr b655, .val cv1, vr b676, .val cv1, .val cv2, .val cv1, vi v672] [(.int (v672.toInt8.toInt32)), cv1, (.ref b676)])
  obtain ⟨cl688, Ar688, qq688, Sz688, Ng688, Hs688, Ft688⟩ := id f682
  have in688 : ¬ (ci1 < 0 ∨ cl688.slots.size ≤ (ci1).toNatClampNeg) := (inb_of Sz688 ⟨by decide, by decide⟩)
  obtain ⟨T688, h688, X688, e688, W688, st688⟩ := stB X680 hx hZ e680 Ar688 (j := ci1) in688 (g := (mkF m 31 #[vr b655, .val cv1, vr b676, .val cv1, .val cv2, .val cv1, vi v672] [(.int (v672.toInt8.toInt32)), cv1, (.ref b676)])) rfl rfl (hb hby d35_31)
  have f689 : Arv Z h688 b676 k676 .byte ci2 [(.int (nar .byte (v671.toInt8.toInt32))), (.int (nar .byte (v672.toInt8.toInt32)))] cv0 := Arv.set Ar688 qq688 Sz688 Ng688 Hs688 Ft688 (fits_nar_byte _) W688 1 rfl (Nat.le_of_ble_eq_true rfl)
  have N690 := Fr.snoc X688 N683 g_b676
  refine Go.step (fun _ k => st688 _ (XS.iinc X688.here hx rfl (hb hby d35_32) rfl (l' := #[vr b655, .val (.int (ci1 + ci1)), vr b676, .val cv1, .val cv2, .val cv1, vi v672]) rfl (XS.iinc X688.here hx rfl (hb hby d35_35) rfl (l' := #[vr b655, .val cv2, vr b676, .val (.int (ci1 + ci1)), .val cv2, .val cv1, vi v672]) rfl (XS.iinc X688.here hx rfl (hb hby d35_38) rfl (l' := #[vr b655, .val cv2, vr b676, .val cv2, .val cv2, .val (.int (ci1 + ci1)), vi v672]) rfl (XS.goto X688.here hx rfl (pc0 := 41) (pc' := 3) rfl (hb hby d35_41) (by decide) (by decide) (XS.iload X688.here hx rfl (hb hby d35_3) rfl (XS.iload X688.here hx rfl (hb hby d35_5) rfl (XS.icmpYes X688.here hx rfl (pc0 := 7) (pc' := 44) rfl (hb hby d35_7) rfl (flt (by decide)).2.1 (by decide) (by decide) (XS.iload X688.here hx rfl (hb hby d35_44) rfl k))))))))) ?_
  show Go p e below s _ _ _ T688 (mkF m 46 #[vr b655, .val cv2, vr b676, .val cv2, .val cv2, .val cv2, vi v672] [cv2])
  have f691 := (((Keep.refl h0 [b676]).wr W680 (Or.inl (List.mem_of_getElem? (i := 0) rfl))).wr W688 (Or.inl (List.mem_of_getElem? (i := 0) rfl)))
  have f692 := (Nat.le_trans (Nat.le_trans (Nat.le_refl _) (Keep.of_wr W680).1) (Keep.of_wr W688).1)
  exact Go.retI X688 hx hlk Bd.returns (hb hby d35_46) e688 ⟨rfl, N690, f691, f689⟩ (by decide) (by decide)

theorem ef_StringUTF16_compress_2 (m : MethodId) (x0 : Addr) (x1 : Int32) (x2 : Int32) : entryFrame m #[(.ref x0), (.int x1), (.int x2)] 6 = mkF m 0 #[vr x0, vi x1, vi x2, .unset, .unset, .unset] [] := by first | (simp [entryFrame, mkF, argsToLocals, Value.category]; done) | rfl
def Q_StringUTF16_compress_2 (Z : State) (b655 : Addr) (k655 : ClassId) (v671 : Int32) (v672 : Int32) (h0 : Heap) (n0 : Nat) (v : Option Value) (h : Heap) (L : List Loc) : Prop := ∃ (b676 : Addr) (k676 : ClassId), v = some (.ref b676) ∧ Fr n0 L ∧ Keep h0 h [] ∧ h0.size ≤ b676 ∧ Arv Z h b676 k676 .byte ci2 [(.int (nar .byte (v671.toInt8.toInt32))), (.int (nar .byte (v672.toInt8.toInt32)))] cv0
set_option maxRecDepth 65536 in
set_option maxHeartbeats 40000000 in
theorem rm_StringUTF16_compress_2 (l : Launch) (Z : State) (a0 : Array Value) (hw : ∀ d ∈ tables_1, d.before a0 Z = true) (ws : List Jvm.Cond) (b655 : Addr) (k655 : ClassId) (v671 : Int32) (v672 : Int32) (h0 : Heap) (n0 : Nat) (Z0 : n0 ≤ h0.size) (V_b655 : Arv Z h0 b655 k655 .char ci2 [(.int v671), (.int v672)] cv0) (as_679 : ¬ ci255 < v671) (as_687 : ¬ ci255 < v672) :
    MetFree l xm3 (head1 (Jvm.Cond.code xm3 jdk_52_method_16_code 6 (some (.array .byte)) :: ws) xr27) (fun a U => a = #[(.ref b655), cv0, cv2] ∧ Z.Warmed39 U.vm ∧ U.heap = h0) (fun _ _ _ _ _ => True) (fun _ U o U' => ∃ v L, o = .returned v ∧ Q_StringUTF16_compress_2 Z b655 k655 v671 v672 h0 n0 v U'.heap L ∧ FrameEnd U o U' L xr27.cells xr27.slots) := by
  refine MetFree.of_bodySF (plainFor_of_name pn_9) hisR ?_
  intro p e s m args below meth c s₁ Bd hml0 hP hK
  obtain ⟨rfl, hZ, hh⟩ := hP
  have hx := Bd.exec
  have hby := Bd.bytes
  have hlk : meth.locks = false := BodyLoose.notSynchronized Bd
  have hml : c.maxLocals = 6 := hml0
  have hown : s.vm.findClass xs19 = some m.cls := findClass_of_methodNamed Bd.named
  have hnm := (name_of_methodNamed Bd.named Bd.method).1
  have X0 : Stand p l e xr27 s m #[(.ref b655), cv0, cv2] below meth c s₁ [] 0 0 := Stand.of_body Bd
  have e0 : s₁.heap = h0 := by rw [← hh, Bd.state]; rfl
  have N0 := Fr.nil n0
  show Go p e below s (Q_StringUTF16_compress_2 Z b655 k655 v671 v672 h0 n0) xr27.cells xr27.slots s₁ (entryFrame m #[(.ref b655), cv0, cv2] 6)
  refine Go.cast (ef_StringUTF16_compress_2 m b655 ci0 ci2) ?_
  show Go p e below s _ _ _ s₁ (mkF m 0 #[vr b655, .val cv0, .val cv2, .unset, .unset, .unset] [])
  refine Go.step (fun _ k => XS.iloadN X0.here hx rfl (hb hby d34_0) rfl k) ?_
  show Go p e below s _ _ _ s₁ (mkF m 1 #[vr b655, .val cv0, .val cv2, .unset, .unset, .unset] [cv2])
  obtain ⟨T676, h676, k676, X676, e676, E676, A676, st676⟩ := newP (aty := .byte) X0 hx hZ (tw26 hw) e0 (g := (mkF m 1 #[vr b655, .val cv0, .val cv2, .unset, .unset, .unset] [cv2])) rfl (hb hby d34_1) rfl (by decide) (cap := 2) (by decide) (by decide) (by decide) (by decide)
  obtain ⟨b676, g676⟩ : ∃ z, z = h0.size := ⟨_, rfl⟩
  rw [← g676] at A676 st676
  have f677 : Arv Z h676 b676 k676 .byte ci2 [cv0, cv0] cv0 := (Arv.new A676 (by decide)).pad (pad_rep [] cv0 2)
  refine Go.step (fun _ k => st676 _ (XS.astoreN X676.here hx rfl (hb hby d34_3) rfl rfl (l' := #[vr b655, .val cv0, .val cv2, vr b676, .unset, .unset]) rfl (XS.aloadN X676.here hx rfl (hb hby d34_4) rfl rfl (XS.iloadN X676.here hx rfl (hb hby d34_5) rfl (XS.aloadN X676.here hx rfl (hb hby d34_6) rfl rfl (XS.iconst X676.here hx rfl (hb hby d34_7) (XS.iloadN X676.here hx rfl (hb hby d34_8) rfl k))))))) ?_
  show Go p e below s _ _ _ T676 (mkF m 9 #[vr b655, .val cv0, .val cv2, vr b676, .unset, .unset] [cv2, cv0, (.ref b676), cv0, (.ref b655)])
  have g681 := Nat.le_trans Z0 (Nat.le_of_eq g676.symm)
  have ne684 : b655 ≠ b676 := Nat.ne_of_lt (Nat.lt_of_lt_of_le V_b655.lt (Nat.le_of_eq g676.symm))
  have f693 := (Nat.le_trans Z0 E676.1)
  have f694 := (V_b655.ext E676)
  obtain ⟨_, _, ⟨T695, L695, k695, n695⟩, -, X695, ⟨Lc695, hQ695, l695, y695, z695⟩, st695⟩ := Jvm.LawKit.callS X676 hx (y := xm1) hown (mvT hZ (tw27 hw)) (mvT hZ (tw28 hw)) (mvT hZ (tw24 hw)) (mvT hZ (tw29 hw)) (by decide) (backOf (W := 0) (rm_StringUTF16_compress_3 l Z a0 hw [] b655 b676 k655 v671 v672 k676 h676 n0 f693 f694 as_679 f677 g681 ne684 as_687) hZ (tw29 hw) (tw24 hw) (by decide) (by decide)) (g := (mkF m 9 #[vr b655, .val cv0, .val cv2, vr b676, .unset, .unset] [cv2, cv0, (.ref b676), cv0, (.ref b655)])) rfl (by rw [hml]; rfl) (argsL := [(.ref b655), cv0, (.ref b676), cv0, cv2]) (rest := []) (lenOf pd_26 rfl) rfl (Nat.le_of_eq rfl) (hb hby d34_9) (fun _ _ => ⟨rfl, e676, (by decide : 1 + 0 ≤ _), (by decide : 2 + 0 ≤ _)⟩)
  dsimp only [Pt.U, Pt.locs, Pt.cells, Pt.slots] at X695 l695 y695 z695 st695 hQ695
  subst l695 y695 z695
  obtain ⟨rfl, N695q, K695, P695_0⟩ := hQ695
  have N696 := Fr.app N0 N695q
  refine Go.step (fun _ k => st695 _ (XS.istore X695.here hx rfl (hb hby d34_12) rfl (l' := #[vr b655, .val cv0, .val cv2, vr b676, .val cv2, .unset]) rfl (XS.iload X695.here hx rfl (hb hby d34_14) rfl (XS.iloadN X695.here hx rfl (hb hby d34_16) rfl (XS.icmpYes X695.here hx rfl (pc0 := 17) (pc' := 57) rfl (hb hby d34_17) rfl (teq (by decide)).1 (by decide) (by decide) (XS.aloadN X695.here hx rfl (hb hby d34_57) rfl rfl k)))))) ?_
  show Go p e below s _ _ _ T695 (mkF m 58 #[vr b655, .val cv0, .val cv2, vr b676, .val cv2, .unset] [(.ref b676)])
  have z697 := Nat.le_trans (Nat.le_refl _) (Nat.le_of_eq g676.symm)
  have f698 := (((Keep.refl h0 []).ext E676).trans K695 (allS (Or.inr z697) all0))
  have f699 := (Nat.le_trans (Nat.le_trans (Nat.le_refl _) E676.1) K695.1)
  exact Go.retA X695 hx hlk Bd.returns rfl rfl (hb hby d34_58) rfl ⟨b676, k676, rfl, N696, f698, z697, P695_0⟩ (by decide) (by decide)

theorem ef_StringUTF16_coderFromArrayLen_1 (m : MethodId) (x0 : Addr) (x1 : Int32) : entryFrame m #[(.ref x0), (.int x1)] 2 = mkF m 0 #[vr x0, vi x1] [] := by first | (simp [entryFrame, mkF, argsToLocals, Value.category]; done) | rfl
def Q_StringUTF16_coderFromArrayLen_1 (Z : State) (uu33 : Addr) (uu34 : ClassId) (v702 : Int32) (v703 : Int32) (h0 : Heap) (n0 : Nat) (v : Option Value) (h : Heap) (L : List Loc) : Prop := v = some cv0 ∧ Fr n0 L ∧ h = h0
set_option maxRecDepth 65536 in
set_option maxHeartbeats 40000000 in
theorem rm_StringUTF16_coderFromArrayLen_1 (l : Launch) (Z : State) (a0 : Array Value) (hw : ∀ d ∈ tables_1, d.before a0 Z = true) (ws : List Jvm.Cond) (uu33 : Addr) (uu34 : ClassId) (v702 : Int32) (v703 : Int32) (h0 : Heap) (n0 : Nat) (Z0 : n0 ≤ h0.size) (V_b676_700 : Arv Z h0 uu33 uu34 .byte ci2 [(.int v702), (.int v703)] cv0) :
    MetFree l xm27 (head1 (Jvm.Cond.code xm27 jdk_52_method_15_code 2 (some .byte) :: ws) xr34) (fun a U => a = #[(.ref uu33), cv2] ∧ Z.Warmed39 U.vm ∧ U.heap = h0) (fun _ _ _ _ _ => True) (fun _ U o U' => ∃ v L, o = .returned v ∧ Q_StringUTF16_coderFromArrayLen_1 Z uu33 uu34 v702 v703 h0 n0 v U'.heap L ∧ FrameEnd U o U' L xr34.cells xr34.slots) := by
  refine MetFree.of_bodySF (plainFor_of_name pn_9) hisR ?_
  intro p e s m args below meth c s₁ Bd hml0 hP hK
  obtain ⟨rfl, hZ, hh⟩ := hP
  have hx := Bd.exec
  have hby := Bd.bytes
  have hlk : meth.locks = false := BodyLoose.notSynchronized Bd
  have hml : c.maxLocals = 2 := hml0
  have hown : s.vm.findClass xs19 = some m.cls := findClass_of_methodNamed Bd.named
  have hnm := (name_of_methodNamed Bd.named Bd.method).1
  have X0 : Stand p l e xr34 s m #[(.ref uu33), cv2] below meth c s₁ [] 0 0 := Stand.of_body Bd
  have e0 : s₁.heap = h0 := by rw [← hh, Bd.state]; rfl
  have N0 := Fr.nil n0
  show Go p e below s (Q_StringUTF16_coderFromArrayLen_1 Z uu33 uu34 v702 v703 h0 n0) xr34.cells xr34.slots s₁ (entryFrame m #[(.ref uu33), cv2] 2)
  refine Go.cast (ef_StringUTF16_coderFromArrayLen_1 m uu33 ci2) ?_
  show Go p e below s _ _ _ s₁ (mkF m 0 #[vr uu33, .val cv2] [])
  refine Go.step (fun _ k => XS.iloadN X0.here hx rfl (hb hby d36_0) rfl (XS.aloadN X0.here hx rfl (hb hby d36_1) rfl rfl k)) ?_
  show Go p e below s _ _ _ s₁ (mkF m 2 #[vr uu33, .val cv2] [(.ref uu33), cv2])
  obtain ⟨cl704, Ar704, -, Sz704, Ng704, -, -⟩ := id V_b676_700
  have aln704 := X0.arraylength hx (by rw [e0]; exact Ar704.1) (State.isArrayOf_alike hZ.alike Ar704.2.1) (g := (mkF m 2 #[vr uu33, .val cv2] [(.ref uu33), cv2])) rfl rfl (hb hby d36_2)
  rw [len_of Sz704 Ng704] at aln704
  refine Go.step (fun _ k => aln704 _ (XS.isub X0.here hx rfl (hb hby d36_3) rfl (XS.bipush X0.here hx rfl (hb hby d36_4) (XS.iushr X0.here hx rfl (hb hby d36_6) rfl (XS.i2b X0.here hx rfl (hb hby d36_7) rfl k))))) ?_
  show Go p e below s _ _ _ s₁ (mkF m 8 #[vr uu33, .val cv2] [cv0])
  exact Go.retN X0 hx hlk (t := .byte) Bd.returns (by simp) (hb hby d36_8) e0 ⟨rfl, N0, rfl⟩ (by decide) (by decide)

theorem ef_String_new_7 (m : MethodId) (x0 : Addr) (x1 : Addr) (x2 : Int32) (x3 : Int32) : entryFrame m #[(.ref x0), (.ref x1), (.int x2), (.int x3), .null] 6 = mkF m 0 #[vr x0, vr x1, vi x2, vi x3, .val .null, .unset] [] := by first | (simp [entryFrame, mkF, argsToLocals, Value.category]; done) | rfl
def Q_String_new_7 (Z : State) (b652 : Addr) (b655 : Addr) (cs : Int32) (k655 : ClassId) (v671 : Int32) (v672 : Int32) (h0 : Heap) (n0 : Nat) (v : Option Value) (h : Heap) (L : List Loc) : Prop := ∃ (uu33 : Addr) (uu34 : ClassId), v = none ∧ Fr n0 L ∧ Keep h0 h [b652] ∧ Fld Z h b652 xs25 "coder" "B" cv0 ∧ Fld Z h b652 xs25 "value" "[B" (.ref uu33) ∧ h0.size ≤ uu33 ∧ Arv Z h uu33 uu34 .byte ci2 [(.int (nar .byte (v671.toInt8.toInt32))), (.int (nar .byte (v672.toInt8.toInt32)))] cv0
set_option maxRecDepth 65536 in
set_option maxHeartbeats 40000000 in
theorem rm_String_new_7 (l : Launch) (Z : State) (a0 : Array Value) (hw : ∀ d ∈ tables_1, d.before a0 Z = true) (ws : List Jvm.Cond) (b652 : Addr) (b655 : Addr) (cs : Int32) (k655 : ClassId) (v671 : Int32) (v672 : Int32) (h0 : Heap) (n0 : Nat) (Z0 : n0 ≤ h0.size) (Z_S_COMPACT_STRINGS : Sta Z Z.heap xs25 xs28 "Z" (.int cs)) (O0 : Old Z n0 h0) (hcs : ¬ cs = ci0) (V_b655 : Arv Z h0 b655 k655 .char ci2 [(.int v671), (.int v672)] cv0) (as_679 : ¬ ci255 < v671) (as_687 : ¬ ci255 < v672) (E_b652 : Exa Z h0 b652 xs25) (F_coder_b652 : Fld Z h0 b652 xs25 "coder" "B" cv0) (g_b652 : n0 ≤ b652) (F_value_b652 : Fld Z h0 b652 xs25 "value" "[B" .null) :
    MetFree l xm22 (head1 (Jvm.Cond.code xm22 jdk_42_method_149_code 6 none :: ws) xr28) (fun a U => a = #[(.ref b652), (.ref b655), cv0, cv2, .null] ∧ Z.Warmed39 U.vm ∧ U.heap = h0 ∧ CHv Z consts_1 U.vm h0) (fun _ _ _ _ _ => True) (fun _ U o U' => ∃ v L, o = .returned v ∧ Q_String_new_7 Z b652 b655 cs k655 v671 v672 h0 n0 v U'.heap L ∧ CHr Z consts_1 U.vm U.heap U'.vm U'.heap ∧ ReturnedEndW U o U' L xr28.cells xr28.slots) := by
  refine MetFree.of_bodySF (plainFor_of_name pn_1) hisR ?_
  intro p e s m args below meth c s₁ Bd hml0 hP hK
  obtain ⟨rfl, hZ, hh, hCH⟩ := hP
  have hx := Bd.exec
  have hby := Bd.bytes
  have hlk : meth.locks = false := BodyLoose.notSynchronized Bd
  have hml : c.maxLocals = 6 := hml0
  have hown : s.vm.findClass xs25 = some m.cls := findClass_of_methodNamed Bd.named
  have hnm := (name_of_methodNamed Bd.named Bd.method).1
  have X0 : Stand p l e xr28 (s.setVm s.vm) m #[(.ref b652), (.ref b655), cv0, cv2, .null] below meth c s₁ [] 0 0 := Stand.of_body Bd
  have e0 : s₁.heap = h0 := by rw [← hh, Bd.state]; rfl
  have N0 := Fr.nil n0
  have hS0 : s.Since s.vm h0.size := (State.WarmedH.refl s).since _
  have CH0 : CHr Z consts_1 s.vm s.heap s.vm h0 := by rw [hh]; exact CHr.refl hCH
  have hZ_0 := hZ
  show GoH p e below s (((Q_String_new_7 Z b652 b655 cs k655 v671 v672 h0 n0, fun vm h => CHr Z consts_1 s.vm s.heap vm h) : (Option Value → Heap → List Loc → Prop) × (Vm → Heap → Prop))) xr28.cells xr28.slots s₁ (entryFrame m #[(.ref b652), (.ref b655), cv0, cv2, .null] 6)
  refine GoH.cast (ef_String_new_7 m b652 b655 ci0 ci2) ?_
  show GoH p e below s _ _ _ s₁ (mkF m 0 #[vr b652, vr b655, .val cv0, .val cv2, .val .null, .unset] [])
  refine GoH.step (fun _ k => XS.aloadN X0.here hx rfl (hb hby d5_0) rfl rfl k) ?_
  show GoH p e below s _ _ _ s₁ (mkF m 1 #[vr b652, vr b655, .val cv0, .val cv2, .val .null, .unset] [(.ref b652)])
  obtain ⟨T674, X674, e674, st674⟩ := initO X0 hx hZ hown (tw18 hw) (tw19 hw) (tw20 hw) e0 (g := (mkF m 1 #[vr b652, vr b655, .val cv0, .val cv2, .val .null, .unset] [(.ref b652)])) rfl (by rw [hml]; rfl) rfl (hb hby d5_1) (by decide) (W := 0) (Nat.le_of_eq rfl) (by decide)
  refine GoH.step (fun _ k => st674 _ (XS.iloadN X674.here hx rfl (hb hby d5_4) rfl (XS.ifYes X674.here hx rfl (pc0 := 5) (pc' := 27) rfl (hb hby d5_5) rfl ((if0 _ _).trans (feq (by decide)).2) (by decide) (by decide) k))) ?_
  show GoH p e below s _ _ _ T674 (mkF m 27 #[vr b652, vr b655, .val cv0, .val cv2, .val .null, .unset] [])
  obtain ⟨T675, X675, e675, st675⟩ := getS2 X674 hx hZ hown (host := "") (Or.inl (tw21 hw)) Via.refl e674 (Z_S_COMPACT_STRINGS.ext O0.2) (g := (mkF m 27 #[vr b652, vr b655, .val cv0, .val cv2, .val .null, .unset] [])) rfl (hb hby d5_27)
  refine GoH.step (fun _ k => st675 _ (XS.ifNo X675.here hx rfl (hb hby d5_30) rfl ((if0 _ _).trans (feq hcs).1) (XS.aloadN X675.here hx rfl (hb hby d5_33) rfl rfl (XS.iloadN X675.here hx rfl (hb hby d5_34) rfl (XS.iloadN X675.here hx rfl (hb hby d5_35) rfl k))))) ?_
  show GoH p e below s _ _ _ T675 (mkF m 36 #[vr b652, vr b655, .val cv0, .val cv2, .val .null, .unset] [cv2, cv0, (.ref b655)])
  obtain ⟨_, _, ⟨T700, L700, k700, n700⟩, -, X700, ⟨Lc700, hQ700, l700, y700, z700⟩, st700⟩ := Jvm.LawKit.callS X675 hx (y := xm3) hown (mvT hZ (tw22 hw)) (mvT hZ (tw23 hw)) (mvT hZ (tw24 hw)) (mvT hZ (tw25 hw)) (by decide) (backOf (W := 0) (rm_StringUTF16_compress_2 l Z a0 hw [] b655 k655 v671 v672 h0 n0 Z0 V_b655 as_679 as_687) hZ (tw25 hw) (tw24 hw) (by decide) (by decide)) (g := (mkF m 36 #[vr b652, vr b655, .val cv0, .val cv2, .val .null, .unset] [cv2, cv0, (.ref b655)])) rfl (by rw [hml]; rfl) (argsL := [(.ref b655), cv0, cv2]) (rest := []) (lenOf pd_27 rfl) rfl (Nat.le_of_eq rfl) (hb hby d5_36) (fun _ _ => ⟨rfl, e675, (by decide : 0 + 1 ≤ _), (by decide : 0 + 2 ≤ _)⟩)
  dsimp only [Pt.U, Pt.locs, Pt.cells, Pt.slots] at X700 l700 y700 z700 st700 hQ700
  subst l700 y700 z700
  obtain ⟨uu33, uu34, rfl, N700q, K700, P700_0, P700_1⟩ := hQ700
  have N701 := Fr.app N0 N700q
  refine GoH.step (fun _ k => st700 _ (XS.astore X700.here hx rfl (hb hby d5_39) rfl rfl (l' := #[vr b652, vr b655, .val cv0, .val cv2, .val .null, vr uu33]) rfl (XS.aloadN X700.here hx rfl (hb hby d5_41) rfl rfl (XS.aload X700.here hx rfl (hb hby d5_42) rfl rfl (XS.iloadN X700.here hx rfl (hb hby d5_44) rfl k))))) ?_
  show GoH p e below s _ _ _ T700 (mkF m 45 #[vr b652, vr b655, .val cv0, .val cv2, .val .null, vr uu33] [cv2, (.ref uu33), (.ref b652)])
  have f705 := (Nat.le_trans Z0 K700.1)
  obtain ⟨_, _, ⟨T706, L706, k706, n706⟩, -, X706, ⟨Lc706, hQ706, l706, y706, z706⟩, st706⟩ := Jvm.LawKit.callS X700 hx (y := xm27) hown (mvT hZ (tw30 hw)) (mvT hZ (tw31 hw)) (mvT hZ (tw24 hw)) (mvT hZ (tw32 hw)) (by decide) (backOf (W := 1) (rm_StringUTF16_coderFromArrayLen_1 l Z a0 hw [] uu33 uu34 (nar .byte (v671.toInt8.toInt32)) (nar .byte (v672.toInt8.toInt32)) T700.heap n0 f705 P700_1) hZ (tw32 hw) (tw24 hw) (by decide) (by decide)) (g := (mkF m 45 #[vr b652, vr b655, .val cv0, .val cv2, .val .null, vr uu33] [cv2, (.ref uu33), (.ref b652)])) rfl (by rw [hml]; rfl) (argsL := [(.ref uu33), cv2]) (rest := [(.ref b652)]) (lenOf pd_28 rfl) rfl (Nat.le_of_eq rfl) (hb hby d5_45) (fun _ _ => ⟨rfl, rfl, (by decide : 1 + 0 ≤ _), (by decide : 2 + 0 ≤ _)⟩)
  dsimp only [Pt.U, Pt.locs, Pt.cells, Pt.slots] at X706 l706 y706 z706 st706 hQ706
  subst l706 y706 z706
  obtain ⟨rfl, N706q, eq706⟩ := hQ706
  have N707 := Fr.app N701 N706q
  refine GoH.step (fun _ k => st706 _ k) ?_
  show GoH p e below s _ _ _ T706 (mkF m 48 #[vr b652, vr b655, .val cv0, .val cv2, .val .null, vr uu33] [cv0, (.ref b652)])
  have f708 := (F_coder_b652.keep K700 nin0)
  have f709 := (E_b652.keep K700)
  obtain ⟨T710, h710, X710, e710, W710, st710⟩ := putFN X706 hx hZ hown (tw33 hw) Via.refl eq706 f708 f709 (Or.inr ⟨(tw34 hw), rfl, hnm⟩) (tw5 hw) (ty := .byte) (v' := cv0) (by decide) rfl rfl (g := (mkF m 48 #[vr b652, vr b655, .val cv0, .val cv2, .val .null, vr uu33] [cv0, (.ref b652)])) rfl rfl (hb hby d5_48)
  have f712 := f708.same W710
  have N713 := Fr.snoc X710 N707 g_b652
  refine GoH.step (fun _ k => st710 _ (XS.aloadN X710.here hx rfl (hb hby d5_51) rfl rfl (XS.aload X710.here hx rfl (hb hby d5_52) rfl rfl k))) ?_
  show GoH p e below s _ _ _ T710 (mkF m 54 #[vr b652, vr b655, .val cv0, .val cv2, .val .null, vr uu33] [(.ref uu33), (.ref b652)])
  have f714 := ((F_value_b652.keep K700 nin0).other W710 (Or.inr (slot_ne (Or.inr (tw36 hw)) (Or.inr (tw34 hw)) (by decide) (t := (.array .byte)) (t' := .byte) (by decide) (by decide))))
  have f715 := (f709.wr W710)
  obtain ⟨T716, h716, X716, e716, W716, st716⟩ := putF X710 hx hZ hown (host := "") (Or.inl (tw35 hw)) Via.refl e710 f714 f715 (Or.inr ⟨(tw36 hw), rfl, hnm⟩) (tw5 hw) (ty := (.array .byte)) (by decide) rfl rfl (g := (mkF m 54 #[vr b652, vr b655, .val cv0, .val cv2, .val .null, vr uu33] [(.ref uu33), (.ref b652)])) rfl rfl (hb hby d5_54)
  have f717 := f714.same W716
  have N718 := Fr.snoc X716 N713 g_b652
  refine GoH.step (fun _ k => st716 _ k) ?_
  show GoH p e below s _ _ _ T716 (mkF m 57 #[vr b652, vr b655, .val cv0, .val cv2, .val .null, vr uu33] [])
  have f719 := ((((Keep.refl h0 [b652]).trans K700 all0).wr W710 (Or.inl (List.mem_of_getElem? (i := 0) rfl))).wr W716 (Or.inl (List.mem_of_getElem? (i := 0) rfl)))
  have f720 := (f712.other W716 (Or.inr (slot_ne (Or.inr (tw34 hw)) (Or.inr (tw36 hw)) (by decide) (t := .byte) (t' := (.array .byte)) (by decide) (by decide))))
  have z721 := Nat.le_trans (Nat.le_refl _) P700_0
  have ne722 : b652 ≠ uu33 := Nat.ne_of_lt (Nat.lt_of_lt_of_le E_b652.lt P700_0)
  have f723 := ((P700_1.other W710 (Ne.symm ne722)).other W716 (Ne.symm ne722))
  have f724 := (Nat.le_trans (Nat.le_trans (Nat.le_trans (Nat.le_refl _) K700.1) (Keep.of_wr W710).1) (Keep.of_wr W716).1)
  have f725 := (F_value_b652.keep K700 nin0)
  have sf726 := own_safeN (EL := consts_1) hZ_0.alike f725 f709
  have f727 := (own_chK CH0 K700 sf0)
  have f728 := (Safe.wr W710 sf726 f727.1 sf726)
  have f729 := (own_chW (own_chW (own_chK CH0 K700 sf0) W710 sf726) W716 f728)
  exact GoH.retV X716 hS0 hx hlk Bd.returns (hb hby d5_57) e716 f724 ⟨uu33, uu34, rfl, N718, f719, f720, f717, z721, f723⟩ (f729.trans (CHv.at X716 hZ_0 (own_EW hw) f729.1)) (by decide) (by decide)

theorem ef_String_new_6 (m : MethodId) (x0 : Addr) (x1 : Addr) : entryFrame m #[(.ref x0), (.ref x1)] 2 = mkF m 0 #[vr x0, vr x1] [] := by first | (simp [entryFrame, mkF, argsToLocals, Value.category]; done) | rfl
def Q_String_new_6 (Z : State) (b652 : Addr) (b655 : Addr) (k655 : ClassId) (v671 : Int32) (v672 : Int32) (cs : Int32) (h0 : Heap) (n0 : Nat) (v : Option Value) (h : Heap) (L : List Loc) : Prop := ∃ (uu35 : Addr) (uu36 : ClassId), v = none ∧ Fr n0 L ∧ Keep h0 h [b652] ∧ Fld Z h b652 xs25 "coder" "B" cv0 ∧ Fld Z h b652 xs25 "value" "[B" (.ref uu35) ∧ h0.size ≤ uu35 ∧ Arv Z h uu35 uu36 .byte ci2 [(.int (nar .byte (v671.toInt8.toInt32))), (.int (nar .byte (v672.toInt8.toInt32)))] cv0
set_option maxRecDepth 65536 in
set_option maxHeartbeats 40000000 in
theorem rm_String_new_6 (l : Launch) (Z : State) (a0 : Array Value) (hw : ∀ d ∈ tables_1, d.before a0 Z = true) (ws : List Jvm.Cond) (b652 : Addr) (b655 : Addr) (k655 : ClassId) (v671 : Int32) (v672 : Int32) (cs : Int32) (h0 : Heap) (n0 : Nat) (Z0 : n0 ≤ h0.size) (V_b655 : Arv Z h0 b655 k655 .char ci2 [(.int v671), (.int v672)] cv0) (Z_S_COMPACT_STRINGS : Sta Z Z.heap xs25 xs28 "Z" (.int cs)) (O0 : Old Z n0 h0) (hcs : ¬ cs = ci0) (as_679 : ¬ ci255 < v671) (as_687 : ¬ ci255 < v672) (E_b652 : Exa Z h0 b652 xs25) (F_coder_b652 : Fld Z h0 b652 xs25 "coder" "B" cv0) (g_b652 : n0 ≤ b652) (F_value_b652 : Fld Z h0 b652 xs25 "value" "[B" .null) :
    MetFree l xm8 (head1 (Jvm.Cond.code xm8 jdk_42_method_3_code 2 none :: ws) xr29) (fun a U => a = #[(.ref b652), (.ref b655)] ∧ Z.Warmed39 U.vm ∧ U.heap = h0 ∧ CHv Z consts_1 U.vm h0) (fun _ _ _ _ _ => True) (fun _ U o U' => ∃ v L, o = .returned v ∧ Q_String_new_6 Z b652 b655 k655 v671 v672 cs h0 n0 v U'.heap L ∧ CHr Z consts_1 U.vm U.heap U'.vm U'.heap ∧ ReturnedEndW U o U' L xr29.cells xr29.slots) := by
  refine MetFree.of_bodySF (plainFor_of_name pn_1) hisR ?_
  intro p e s m args below meth c s₁ Bd hml0 hP hK
  obtain ⟨rfl, hZ, hh, hCH⟩ := hP
  have hx := Bd.exec
  have hby := Bd.bytes
  have hlk : meth.locks = false := BodyLoose.notSynchronized Bd
  have hml : c.maxLocals = 2 := hml0
  have hown : s.vm.findClass xs25 = some m.cls := findClass_of_methodNamed Bd.named
  have hnm := (name_of_methodNamed Bd.named Bd.method).1
  have X0 : Stand p l e xr29 (s.setVm s.vm) m #[(.ref b652), (.ref b655)] below meth c s₁ [] 0 0 := Stand.of_body Bd
  have e0 : s₁.heap = h0 := by rw [← hh, Bd.state]; rfl
  have N0 := Fr.nil n0
  have hS0 : s.Since s.vm h0.size := (State.WarmedH.refl s).since _
  have CH0 : CHr Z consts_1 s.vm s.heap s.vm h0 := by rw [hh]; exact CHr.refl hCH
  have hZ_0 := hZ
  show GoH p e below s (((Q_String_new_6 Z b652 b655 k655 v671 v672 cs h0 n0, fun vm h => CHr Z consts_1 s.vm s.heap vm h) : (Option Value → Heap → List Loc → Prop) × (Vm → Heap → Prop))) xr29.cells xr29.slots s₁ (entryFrame m #[(.ref b652), (.ref b655)] 2)
  refine GoH.cast (ef_String_new_6 m b652 b655) ?_
  show GoH p e below s _ _ _ s₁ (mkF m 0 #[vr b652, vr b655] [])
  refine GoH.step (fun _ k => XS.aloadN X0.here hx rfl (hb hby d4_0) rfl rfl (XS.aloadN X0.here hx rfl (hb hby d4_1) rfl rfl (XS.iconst X0.here hx rfl (hb hby d4_2) (XS.aloadN X0.here hx rfl (hb hby d4_3) rfl rfl k)))) ?_
  show GoH p e below s _ _ _ s₁ (mkF m 4 #[vr b652, vr b655] [(.ref b655), cv0, (.ref b655), (.ref b652)])
  obtain ⟨cl673, Ar673, -, Sz673, Ng673, -, -⟩ := id V_b655
  have aln673 := X0.arraylength hx (by rw [e0]; exact Ar673.1) (State.isArrayOf_alike hZ.alike Ar673.2.1) (g := (mkF m 4 #[vr b652, vr b655] [(.ref b655), cv0, (.ref b655), (.ref b652)])) rfl rfl (hb hby d4_4)
  rw [len_of Sz673 Ng673] at aln673
  refine GoH.step (fun _ k => aln673 _ (XS.aconstNull X0.here hx rfl (hb hby d4_5) k)) ?_
  show GoH p e below s _ _ _ s₁ (mkF m 6 #[vr b652, vr b655] [.null, cv2, cv0, (.ref b655), (.ref b652)])
  obtain ⟨_, _, ⟨T730, L730, k730, n730⟩, -, X730s, hs730, hg730, ⟨Lc730, hQ730, l730, y730, z730, ch730⟩, st730⟩ := X0.specialBackS hx (y := xm22) rfl hown (mvT hZ (tw14 hw)) (mvT hZ (tw15 hw)) (mvT hZ (tw17 hw)) (by decide) (backOfSH (W := 0) (rm_String_new_7 l Z a0 hw [] b652 b655 cs k655 v671 v672 h0 n0 Z0 Z_S_COMPACT_STRINGS O0 hcs V_b655 as_679 as_687 E_b652 F_coder_b652 g_b652 F_value_b652) hZ (tw17 hw) (tw6 hw) (by decide) (by decide) (own_EW hw) CH0.1) (g := (mkF m 6 #[vr b652, vr b655] [.null, cv2, cv0, (.ref b655), (.ref b652)])) rfl (by rw [hml]; rfl) (Steps.refl _) (a := b652) (argsL := [(.ref b655), cv0, cv2, .null]) (rest := []) (lenOf pd_1 rfl) rfl (Nat.le_of_eq rfl) (hb hby d4_6) (fun _ _ => ⟨rfl, e0, (by decide : 0 + 1 ≤ _), (by decide : 0 + 2 ≤ _)⟩)
  dsimp only [Pt.U, Pt.locs, Pt.cells, Pt.slots] at X730s hs730 hg730 l730 y730 z730 st730 hQ730 ch730
  subst l730 y730 z730
  obtain ⟨X730, hS730, hZ730, hown730⟩ := rebS hS0 (by rw [e0]; exact (Nat.le_refl _)) X730s hs730 hg730 hZ hown
  obtain ⟨uu35, uu36, rfl, N730q, K730, P730_0, P730_1, P730_2, P730_3⟩ := hQ730
  have N731 := Fr.app N0 N730q
  have f732 := CH0.trans ch730
  refine GoH.step (fun _ k => st730.trans k) ?_
  show GoH p e below s _ _ _ T730 (mkF m 9 #[vr b652, vr b655] [])
  have f733 := ((Keep.refl h0 [b652]).trans K730 (allS (Or.inl (List.mem_of_getElem? (i := 0) rfl)) all0))
  have z734 := Nat.le_trans (Nat.le_refl _) P730_2
  exact GoH.retV X730 hS730 hx hlk Bd.returns (hb hby d4_9) rfl (Nat.le_refl _) ⟨uu35, uu36, rfl, N731, f733, P730_0, P730_1, z734, P730_3⟩ (f732.trans (CHv.at X730 hZ730 (own_EW hw) f732.1)) (by decide) (by decide)

theorem ef_ObjectRefToStringPinLaw_make_2 (m : MethodId) (x0 : Int32) (x1 : Int32) : entryFrame m #[(.int x0), (.int x1)] 2 = mkF m 0 #[vi x0, vi x1] [] := by first | (simp [entryFrame, mkF, argsToLocals, Value.category]; done) | rfl
def Q_ObjectRefToStringPinLaw_make_2 (Z : State) (p2 : Int32) (cs : Int32) (h0 : Heap) (n0 : Nat) (v : Option Value) (h : Heap) (L : List Loc) : Prop := ∃ (b652 : Addr) (uu37 : Addr) (uu38 : ClassId), v = some (.ref b652) ∧ Fr n0 L ∧ Keep h0 h [] ∧ h0.size ≤ b652 ∧ Exa Z h b652 xs25 ∧ Fld Z h b652 xs25 "coder" "B" cv0 ∧ Fld Z h b652 xs25 "value" "[B" (.ref uu37) ∧ h0.size ≤ uu37 ∧ Arv Z h uu37 uu38 .byte ci2 [(.int (nar .byte ((nar .char (own_ch p2 ci0)).toInt8.toInt32))), (.int (nar .byte ((nar .char (own_ch p2 ci1)).toInt8.toInt32)))] cv0 ∧ b652 ≠ uu37
set_option maxRecDepth 65536 in
set_option maxHeartbeats 40000000 in
theorem rm_ObjectRefToStringPinLaw_make_2 (l : Launch) (Z : State) (a0 : Array Value) (hw : ∀ d ∈ tables_1, d.before a0 Z = true) (ws : List Jvm.Cond) (p2 : Int32) (cs : Int32) (h0 : Heap) (n0 : Nat) (Z0 : n0 ≤ h0.size) (Z_S_COMPACT_STRINGS : Sta Z Z.heap xs25 xs28 "Z" (.int cs)) (O0 : Old Z n0 h0) (hcs : ¬ cs = ci0) (as_679 : ¬ ci255 < (nar .char (own_ch p2 ci0))) (as_687 : ¬ ci255 < (nar .char (own_ch p2 ci1))) :
    MetFree l xm33 (head1 (Jvm.Cond.code xm33 method_5_code 2 (some (.object xs25)) :: ws) xr30) (fun a U => a = #[(.int p2), cv2] ∧ Z.Warmed39 U.vm ∧ U.heap = h0 ∧ CHv Z consts_1 U.vm h0) (fun _ _ _ _ _ => True) (fun _ U o U' => ∃ v L, o = .returned v ∧ Q_ObjectRefToStringPinLaw_make_2 Z p2 cs h0 n0 v U'.heap L ∧ CHr Z consts_1 U.vm U.heap U'.vm U'.heap ∧ ReturnedEndW U o U' L xr30.cells xr30.slots) := by
  refine MetFree.of_bodySF (plainFor_of_name pn_2) hisR ?_
  intro p e s m args below meth c s₁ Bd hml0 hP hK
  obtain ⟨rfl, hZ, hh, hCH⟩ := hP
  have hx := Bd.exec
  have hby := Bd.bytes
  have hlk : meth.locks = false := BodyLoose.notSynchronized Bd
  have hml : c.maxLocals = 2 := hml0
  have hown : s.vm.findClass xs0 = some m.cls := findClass_of_methodNamed Bd.named
  have hnm := (name_of_methodNamed Bd.named Bd.method).1
  have X0 : Stand p l e xr30 (s.setVm s.vm) m #[(.int p2), cv2] below meth c s₁ [] 0 0 := Stand.of_body Bd
  have e0 : s₁.heap = h0 := by rw [← hh, Bd.state]; rfl
  have N0 := Fr.nil n0
  have hS0 : s.Since s.vm h0.size := (State.WarmedH.refl s).since _
  have CH0 : CHr Z consts_1 s.vm s.heap s.vm h0 := by rw [hh]; exact CHr.refl hCH
  have hZ_0 := hZ
  show GoH p e below s (((Q_ObjectRefToStringPinLaw_make_2 Z p2 cs h0 n0, fun vm h => CHr Z consts_1 s.vm s.heap vm h) : (Option Value → Heap → List Loc → Prop) × (Vm → Heap → Prop))) xr30.cells xr30.slots s₁ (entryFrame m #[(.int p2), cv2] 2)
  refine GoH.cast (ef_ObjectRefToStringPinLaw_make_2 m p2 ci2) ?_
  show GoH p e below s _ _ _ s₁ (mkF m 0 #[vi p2, .val cv2] [])
  refine GoH.step (fun _ k => XS.iloadN X0.here hx rfl (hb hby d3_0) rfl (XS.ifYes X0.here hx rfl (pc0 := 1) (pc' := 15) rfl (hb hby d3_1) rfl ((if0 _ _).trans (feq (by decide)).2) (by decide) (by decide) (XS.iloadN X0.here hx rfl (hb hby d3_15) rfl (XS.iconst X0.here hx rfl (hb hby d3_16) (XS.icmpYes X0.here hx rfl (pc0 := 17) (pc' := 39) rfl (hb hby d3_17) rfl (feq (by decide)).2 (by decide) (by decide) (XS.iloadN X0.here hx rfl (hb hby d3_39) rfl (XS.iconst X0.here hx rfl (hb hby d3_40) (XS.icmpNo X0.here hx rfl (hb hby d3_41) rfl (teq (by decide)).2 k)))))))) ?_
  show GoH p e below s _ _ _ s₁ (mkF m 44 #[vi p2, .val cv2] [])
  obtain ⟨T652, h652, X652, e652, E652, A652, D652, -, st652⟩ := newO X0 hx hZ hown (tw4 hw) (tw5 hw) (tw6 hw) e0 (g := (mkF m 44 #[vi p2, .val cv2] [])) rfl (hb hby d3_44) (by decide) (by decide)
  obtain ⟨b652, g652⟩ : ∃ z, z = h0.size := ⟨_, rfl⟩
  rw [← g652] at A652 D652 st652
  have f653 : Fld Z h652 b652 xs25 "coder" "B" cv0 := D652 (Or.inr (tw34 hw)) (ty := .byte) (by decide)
  have f654 : Fld Z h652 b652 xs25 "value" "[B" .null := D652 (Or.inr (tw36 hw)) (ty := (.array .byte)) (by decide)
  refine GoH.step (fun _ k => st652 _ (XS.dup X652.here hx rfl (hb hby d3_47) rfl rfl (XS.iconst X652.here hx rfl (hb hby d3_48) k))) ?_
  show GoH p e below s _ _ _ T652 (mkF m 49 #[vi p2, .val cv2] [cv2, (.ref b652), (.ref b652)])
  obtain ⟨T655, h655, k655, X655, e655, E655, A655, st655⟩ := newP (aty := .char) X652 hx hZ (tw7 hw) e652 (g := (mkF m 49 #[vi p2, .val cv2] [cv2, (.ref b652), (.ref b652)])) rfl (hb hby d3_49) rfl (by decide) (cap := 2) (by decide) (by decide) (by decide) (by decide)
  obtain ⟨b655, g655⟩ : ∃ z, z = h652.size := ⟨_, rfl⟩
  rw [← g655] at A655 st655
  have f656 : Arv Z h655 b655 k655 .char ci2 [cv0, cv0] cv0 := (Arv.new A655 (by decide)).pad (pad_rep [] cv0 2)
  refine GoH.step (fun _ k => st655 _ (XS.dup X655.here hx rfl (hb hby d3_51) rfl rfl (XS.iconst X655.here hx rfl (hb hby d3_52) (XS.iloadN X655.here hx rfl (hb hby d3_53) rfl (XS.iconst X655.here hx rfl (hb hby d3_54) k))))) ?_
  show GoH p e below s _ _ _ T655 (mkF m 55 #[vi p2, .val cv2] [cv0, (.int p2), cv0, (.ref b655), (.ref b655), (.ref b652), (.ref b652)])
  have f657 := (Nat.le_trans (Nat.le_trans Z0 E652.1) E655.1)
  obtain ⟨_, _, ⟨T658, L658, k658, n658⟩, -, X658, ⟨Lc658, hQ658, l658, y658, z658⟩, st658⟩ := Jvm.LawKit.callS X655 hx (y := xm30) hown (mvT hZ (tw8 hw)) (mvT hZ (tw9 hw)) (mvT hZ (tw2 hw)) (mvT hZ (tw10 hw)) (by decide) (backOf (W := 5) (rm_ch l Z a0 hw [] p2 ci0 h655 n0 f657) hZ (tw10 hw) (tw2 hw) (by decide) (by decide)) (g := (mkF m 55 #[vi p2, .val cv2] [cv0, (.int p2), cv0, (.ref b655), (.ref b655), (.ref b652), (.ref b652)])) rfl (by rw [hml]; rfl) (argsL := [(.int p2), cv0]) (rest := [cv0, (.ref b655), (.ref b655), (.ref b652), (.ref b652)]) (lenOf pd_25 rfl) rfl (Nat.le_of_eq rfl) (hb hby d3_55) (fun _ _ => ⟨rfl, e655, (by decide : 2 + 0 ≤ _), (by decide : 6 + 0 ≤ _)⟩)
  dsimp only [Pt.U, Pt.locs, Pt.cells, Pt.slots] at X658 l658 y658 z658 st658 hQ658
  subst l658 y658 z658
  obtain ⟨rfl, N658q, eq658⟩ := hQ658
  have N659 := Fr.app N0 N658q
  refine GoH.step (fun _ k => st658 _ k) ?_
  show GoH p e below s _ _ _ T658 (mkF m 58 #[vi p2, .val cv2] [(.int (own_ch p2 ci0)), cv0, (.ref b655), (.ref b655), (.ref b652), (.ref b652)])
  obtain ⟨cl660, Ar660, qq660, Sz660, Ng660, Hs660, Ft660⟩ := id f656
  have in660 : ¬ (ci0 < 0 ∨ cl660.slots.size ≤ (ci0).toNatClampNeg) := (inb_of Sz660 ⟨by decide, by decide⟩)
  obtain ⟨T660, h660, X660, e660, W660, st660⟩ := stC X658 hx hZ eq658 Ar660 (j := ci0) in660 (g := (mkF m 58 #[vi p2, .val cv2] [(.int (own_ch p2 ci0)), cv0, (.ref b655), (.ref b655), (.ref b652), (.ref b652)])) rfl rfl (hb hby d3_58)
  have f661 := (Nat.le_trans Z0 E652.1)
  have g662 := Nat.le_trans f661 (Nat.le_of_eq g655.symm)
  have f663 : Arv Z h660 b655 k655 .char ci2 [(.int (nar .char (own_ch p2 ci0))), cv0] cv0 := Arv.set Ar660 qq660 Sz660 Ng660 Hs660 Ft660 (fits_nar_char _) W660 0 rfl (Nat.le_of_ble_eq_true rfl)
  have N664 := Fr.snoc X660 N659 g662
  refine GoH.step (fun _ k => st660 _ (XS.dup X660.here hx rfl (hb hby d3_59) rfl rfl (XS.iconst X660.here hx rfl (hb hby d3_60) (XS.iloadN X660.here hx rfl (hb hby d3_61) rfl (XS.iconst X660.here hx rfl (hb hby d3_62) k))))) ?_
  show GoH p e below s _ _ _ T660 (mkF m 63 #[vi p2, .val cv2] [cv1, (.int p2), cv1, (.ref b655), (.ref b655), (.ref b652), (.ref b652)])
  have f665 := (Nat.le_trans f657 (Keep.of_wr W660).1)
  obtain ⟨_, _, ⟨T666, L666, k666, n666⟩, -, X666, ⟨Lc666, hQ666, l666, y666, z666⟩, st666⟩ := Jvm.LawKit.callS X660 hx (y := xm30) hown (mvT hZ (tw8 hw)) (mvT hZ (tw9 hw)) (mvT hZ (tw2 hw)) (mvT hZ (tw10 hw)) (by decide) (backOf (W := 5) (rm_ch l Z a0 hw [] p2 ci1 h660 n0 f665) hZ (tw10 hw) (tw2 hw) (by decide) (by decide)) (g := (mkF m 63 #[vi p2, .val cv2] [cv1, (.int p2), cv1, (.ref b655), (.ref b655), (.ref b652), (.ref b652)])) rfl (by rw [hml]; rfl) (argsL := [(.int p2), cv1]) (rest := [cv1, (.ref b655), (.ref b655), (.ref b652), (.ref b652)]) (lenOf pd_25 rfl) rfl (Nat.le_of_eq rfl) (hb hby d3_63) (fun _ _ => ⟨rfl, e660, (by decide : 2 + 0 ≤ _), (by decide : 6 + 0 ≤ _)⟩)
  dsimp only [Pt.U, Pt.locs, Pt.cells, Pt.slots] at X666 l666 y666 z666 st666 hQ666
  subst l666 y666 z666
  obtain ⟨rfl, N666q, eq666⟩ := hQ666
  have N667 := Fr.app N664 N666q
  refine GoH.step (fun _ k => st666 _ k) ?_
  show GoH p e below s _ _ _ T666 (mkF m 66 #[vi p2, .val cv2] [(.int (own_ch p2 ci1)), cv1, (.ref b655), (.ref b655), (.ref b652), (.ref b652)])
  obtain ⟨cl668, Ar668, qq668, Sz668, Ng668, Hs668, Ft668⟩ := id f663
  have in668 : ¬ (ci1 < 0 ∨ cl668.slots.size ≤ (ci1).toNatClampNeg) := (inb_of Sz668 ⟨by decide, by decide⟩)
  obtain ⟨T668, h668, X668, e668, W668, st668⟩ := stC X666 hx hZ eq666 Ar668 (j := ci1) in668 (g := (mkF m 66 #[vi p2, .val cv2] [(.int (own_ch p2 ci1)), cv1, (.ref b655), (.ref b655), (.ref b652), (.ref b652)])) rfl rfl (hb hby d3_66)
  have f669 : Arv Z h668 b655 k655 .char ci2 [(.int (nar .char (own_ch p2 ci0))), (.int (nar .char (own_ch p2 ci1)))] cv0 := Arv.set Ar668 qq668 Sz668 Ng668 Hs668 Ft668 (fits_nar_char _) W668 1 rfl (Nat.le_of_ble_eq_true rfl)
  have N670 := Fr.snoc X668 N667 g662
  refine GoH.step (fun _ k => st668 _ k) ?_
  show GoH p e below s _ _ _ T668 (mkF m 67 #[vi p2, .val cv2] [(.ref b655), (.ref b652), (.ref b652)])
  have g711 := Nat.le_trans Z0 (Nat.le_of_eq g652.symm)
  have f735 := ((((O0.ext E652).ext E655).wr W660 g662).wr W668 g662)
  have f736 := (Nat.le_trans f665 (Keep.of_wr W668).1)
  have f737 := (((A652.ext E655).wr W660).wr W668)
  have ne738 : b652 ≠ b655 := Nat.ne_of_lt (Nat.lt_of_lt_of_le A652.lt (Nat.le_of_eq g655.symm))
  have f739 := (((f653.ext E655).other W660 (Or.inl ne738)).other W668 (Or.inl ne738))
  have f740 := (((f654.ext E655).other W660 (Or.inl ne738)).other W668 (Or.inl ne738))
  have f742 := (own_chW (own_chW (own_chE (own_chE CH0 E652) E655) W660 (Safe.arv hZ_0.alike f656 (by simp))) W668 (Safe.arv hZ_0.alike f663 (by simp)))
  obtain ⟨_, _, ⟨T741, L741, k741, n741⟩, -, X741s, hs741, hg741, ⟨Lc741, hQ741, l741, y741, z741, ch741⟩, st741⟩ := X668.specialBackS hx (y := xm8) rfl hown (mvT hZ (tw11 hw)) (mvT hZ (tw12 hw)) (mvT hZ (tw13 hw)) (by decide) (backOfSH (W := 1) (rm_String_new_6 l Z a0 hw [] b652 b655 k655 (nar .char (own_ch p2 ci0)) (nar .char (own_ch p2 ci1)) cs h668 n0 f736 f669 Z_S_COMPACT_STRINGS f735 hcs as_679 as_687 f737 f739 g711 f740) hZ (tw13 hw) (tw6 hw) (by decide) (by decide) (own_EW hw) f742.1) (g := (mkF m 67 #[vi p2, .val cv2] [(.ref b655), (.ref b652), (.ref b652)])) rfl (by rw [hml]; rfl) (Steps.refl _) (a := b652) (argsL := [(.ref b655)]) (rest := [(.ref b652)]) (lenOf pd_2 rfl) rfl (Nat.le_of_eq rfl) (hb hby d3_67) (fun _ _ => ⟨rfl, e668, (by decide : 2 + 1 ≤ _), (by decide : 6 + 2 ≤ _)⟩)
  dsimp only [Pt.U, Pt.locs, Pt.cells, Pt.slots] at X741s hs741 hg741 l741 y741 z741 st741 hQ741 ch741
  subst l741 y741 z741
  have f743 := (Nat.le_trans (Nat.le_trans (Nat.le_trans (Nat.le_trans (Nat.le_refl _) E652.1) E655.1) (Keep.of_wr W660).1) (Keep.of_wr W668).1)
  obtain ⟨X741, hS741, hZ741, hown741⟩ := rebS hS0 (by rw [e668]; exact f743) X741s hs741 hg741 hZ hown
  obtain ⟨uu37, uu38, rfl, N741q, K741, P741_0, P741_1, P741_2, P741_3⟩ := hQ741
  have N744 := Fr.app N670 N741q
  have f745 := f742.trans ch741
  refine GoH.step (fun _ k => st741.trans k) ?_
  show GoH p e below s _ _ _ T741 (mkF m 70 #[vi p2, .val cv2] [(.ref b652)])
  have f746 := (Nat.le_trans (Nat.le_refl _) E652.1)
  have z747 := Nat.le_trans f746 (Nat.le_of_eq g655.symm)
  have z748 := Nat.le_trans (Nat.le_refl _) (Nat.le_of_eq g652.symm)
  have f749 := ((((((Keep.refl h0 []).ext E652).ext E655).wr W660 (Or.inr z747)).wr W668 (Or.inr z747)).trans K741 (allS (Or.inr z748) all0))
  have f750 := (f737.keep K741)
  have f751 := (Nat.le_trans (Nat.le_trans (Nat.le_trans f746 E655.1) (Keep.of_wr W660).1) (Keep.of_wr W668).1)
  have z752 := Nat.le_trans f751 P741_2
  have ne753 : b652 ≠ uu37 := Nat.ne_of_lt (Nat.lt_of_lt_of_le f737.lt P741_2)
  exact GoH.retA X741 hS741 hx hlk Bd.returns rfl rfl (hb hby d3_70) rfl (Nat.le_refl _) ⟨b652, uu37, uu38, rfl, N744, f749, z748, f750, P741_0, P741_1, z752, P741_3, ne753⟩ (f745.trans (CHv.at X741 hZ741 (own_EW hw) f745.1)) (by decide) (by decide)

theorem ef_StringUTF16_compress_5 (m : MethodId) (x0 : Addr) (x1 : Int32) (x2 : Addr) (x3 : Int32) (x4 : Int32) : entryFrame m #[(.ref x0), (.int x1), (.ref x2), (.int x3), (.int x4)] 7 = mkF m 0 #[vr x0, vi x1, vr x2, vi x3, vi x4, .unset, .unset] [] := by first | (simp [entryFrame, mkF, argsToLocals, Value.category]; done) | rfl
def Q_StringUTF16_compress_5 (Z : State) (b811 : Addr) (b839 : Addr) (k811 : ClassId) (v833 : Int32) (v834 : Int32) (v835 : Int32) (k839 : ClassId) (h0 : Heap) (n0 : Nat) (v : Option Value) (h : Heap) (L : List Loc) : Prop := v = some cv3 ∧ Fr n0 L ∧ Keep h0 h [b839] ∧ Arv Z h b839 k839 .byte ci3 [(.int (nar .byte (v833.toInt8.toInt32))), (.int (nar .byte (v834.toInt8.toInt32))), (.int (nar .byte (v835.toInt8.toInt32)))] cv0
set_option maxRecDepth 65536 in
set_option maxHeartbeats 40000000 in
theorem rm_StringUTF16_compress_5 (l : Launch) (Z : State) (a0 : Array Value) (hw : ∀ d ∈ tables_1, d.before a0 Z = true) (ws : List Jvm.Cond) (b811 : Addr) (b839 : Addr) (k811 : ClassId) (v833 : Int32) (v834 : Int32) (v835 : Int32) (k839 : ClassId) (h0 : Heap) (n0 : Nat) (Z0 : n0 ≤ h0.size) (V_b811 : Arv Z h0 b811 k811 .char ci3 [(.int v833), (.int v834), (.int v835)] cv0) (as_842 : ¬ ci255 < v833) (V_b839 : Arv Z h0 b839 k839 .byte ci3 [cv0, cv0, cv0] cv0) (g_b839 : n0 ≤ b839) (ne_b811_b839 : b811 ≠ b839) (as_850 : ¬ ci255 < v834) (as_856 : ¬ ci255 < v835) :
    MetFree l xm1 (head1 (Jvm.Cond.code xm1 jdk_52_method_21_code 7 (some .int) :: ws) xr34) (fun a U => a = #[(.ref b811), cv0, (.ref b839), cv0, cv3] ∧ Z.Warmed39 U.vm ∧ U.heap = h0) (fun _ _ _ _ _ => True) (fun _ U o U' => ∃ v L, o = .returned v ∧ Q_StringUTF16_compress_5 Z b811 b839 k811 v833 v834 v835 k839 h0 n0 v U'.heap L ∧ FrameEnd U o U' L xr34.cells xr34.slots) := by
  refine MetFree.of_bodySF (plainFor_of_name pn_9) hisR ?_
  intro p e s m args below meth c s₁ Bd hml0 hP hK
  obtain ⟨rfl, hZ, hh⟩ := hP
  have hx := Bd.exec
  have hby := Bd.bytes
  have hlk : meth.locks = false := BodyLoose.notSynchronized Bd
  have hml : c.maxLocals = 7 := hml0
  have hown : s.vm.findClass xs19 = some m.cls := findClass_of_methodNamed Bd.named
  have hnm := (name_of_methodNamed Bd.named Bd.method).1
  have X0 : Stand p l e xr34 s m #[(.ref b811), cv0, (.ref b839), cv0, cv3] below meth c s₁ [] 0 0 := Stand.of_body Bd
  have e0 : s₁.heap = h0 := by rw [← hh, Bd.state]; rfl
  have N0 := Fr.nil n0
  show Go p e below s (Q_StringUTF16_compress_5 Z b811 b839 k811 v833 v834 v835 k839 h0 n0) xr34.cells xr34.slots s₁ (entryFrame m #[(.ref b811), cv0, (.ref b839), cv0, cv3] 7)
  refine Go.cast (ef_StringUTF16_compress_5 m b811 ci0 b839 ci0 ci3) ?_
  show Go p e below s _ _ _ s₁ (mkF m 0 #[vr b811, .val cv0, vr b839, .val cv0, .val cv3, .unset, .unset] [])
  refine Go.step (fun _ k => XS.iconst X0.here hx rfl (hb hby d35_0) (XS.istore X0.here hx rfl (hb hby d35_1) rfl (l' := #[vr b811, .val cv0, vr b839, .val cv0, .val cv3, .val cv0, .unset]) rfl (XS.iload X0.here hx rfl (hb hby d35_3) rfl (XS.iload X0.here hx rfl (hb hby d35_5) rfl (XS.icmpNo X0.here hx rfl (hb hby d35_7) rfl (tlt (by decide)).2.1 (XS.aloadN X0.here hx rfl (hb hby d35_10) rfl rfl (XS.iloadN X0.here hx rfl (hb hby d35_11) rfl k))))))) ?_
  show Go p e below s _ _ _ s₁ (mkF m 12 #[vr b811, .val cv0, vr b839, .val cv0, .val cv3, .val cv0, .unset] [cv0, (.ref b811)])
  obtain ⟨cl841, Ar841, -, Sz841, Ng841, Hs841, Ft841⟩ := id V_b811
  have in841 : ¬ (ci0 < 0 ∨ cl841.slots.size ≤ (ci0).toNatClampNeg) := (inb_of Sz841 ⟨by decide, by decide⟩)
  have at841 : cl841.slots[(ci0).toNatClampNeg]? = some (.int v833) := Hs841.at in841 rfl
  refine Go.step (fun _ k => X0.caload hx (j := ci0) (v := (.int v833)) (by rw [e0]; exact Ar841.1) (State.isArrayOf_alike hZ.alike Ar841.2.1) Ar841.2.2 in841 at841 (g := (mkF m 12 #[vr b811, .val cv0, vr b839, .val cv0, .val cv3, .val cv0, .unset] [cv0, (.ref b811)])) rfl rfl (hb hby d35_12) _ (XS.istore X0.here hx rfl (hb hby d35_13) rfl (l' := #[vr b811, .val cv0, vr b839, .val cv0, .val cv3, .val cv0, vi v833]) rfl (XS.iload X0.here hx rfl (hb hby d35_15) rfl (XS.sipush X0.here hx rfl (hb hby d35_17) (XS.icmpYes X0.here hx rfl (pc0 := 20) (pc' := 26) rfl (hb hby d35_20) rfl (flt as_842).2.2.2 (by decide) (by decide) (XS.aloadN X0.here hx rfl (hb hby d35_26) rfl rfl (XS.iloadN X0.here hx rfl (hb hby d35_27) rfl (XS.iload X0.here hx rfl (hb hby d35_28) rfl (XS.i2b X0.here hx rfl (hb hby d35_30) rfl k))))))))) ?_
  show Go p e below s _ _ _ s₁ (mkF m 31 #[vr b811, .val cv0, vr b839, .val cv0, .val cv3, .val cv0, vi v833] [(.int (v833.toInt8.toInt32)), cv0, (.ref b839)])
  obtain ⟨cl843, Ar843, qq843, Sz843, Ng843, Hs843, Ft843⟩ := id V_b839
  have in843 : ¬ (ci0 < 0 ∨ cl843.slots.size ≤ (ci0).toNatClampNeg) := (inb_of Sz843 ⟨by decide, by decide⟩)
  obtain ⟨T843, h843, X843, e843, W843, st843⟩ := stB X0 hx hZ e0 Ar843 (j := ci0) in843 (g := (mkF m 31 #[vr b811, .val cv0, vr b839, .val cv0, .val cv3, .val cv0, vi v833] [(.int (v833.toInt8.toInt32)), cv0, (.ref b839)])) rfl rfl (hb hby d35_31)
  have f845 : Arv Z h843 b839 k839 .byte ci3 [(.int (nar .byte (v833.toInt8.toInt32))), cv0, cv0] cv0 := Arv.set Ar843 qq843 Sz843 Ng843 Hs843 Ft843 (fits_nar_byte _) W843 0 rfl (Nat.le_of_ble_eq_true rfl)
  have N846 := Fr.snoc X843 N0 g_b839
  refine Go.step (fun _ k => st843 _ (XS.iinc X843.here hx rfl (hb hby d35_32) rfl (l' := #[vr b811, .val (.int (ci0 + ci1)), vr b839, .val cv0, .val cv3, .val cv0, vi v833]) rfl (XS.iinc X843.here hx rfl (hb hby d35_35) rfl (l' := #[vr b811, .val cv1, vr b839, .val (.int (ci0 + ci1)), .val cv3, .val cv0, vi v833]) rfl (XS.iinc X843.here hx rfl (hb hby d35_38) rfl (l' := #[vr b811, .val cv1, vr b839, .val cv1, .val cv3, .val (.int (ci0 + ci1)), vi v833]) rfl (XS.goto X843.here hx rfl (pc0 := 41) (pc' := 3) rfl (hb hby d35_41) (by decide) (by decide) (XS.iload X843.here hx rfl (hb hby d35_3) rfl (XS.iload X843.here hx rfl (hb hby d35_5) rfl (XS.icmpNo X843.here hx rfl (hb hby d35_7) rfl (tlt (by decide)).2.1 (XS.aloadN X843.here hx rfl (hb hby d35_10) rfl rfl (XS.iloadN X843.here hx rfl (hb hby d35_11) rfl k)))))))))) ?_
  show Go p e below s _ _ _ T843 (mkF m 12 #[vr b811, .val cv1, vr b839, .val cv1, .val cv3, .val cv1, vi v833] [cv1, (.ref b811)])
  have f848 := (V_b811.other W843 ne_b811_b839)
  obtain ⟨cl849, Ar849, -, Sz849, Ng849, Hs849, Ft849⟩ := id f848
  have in849 : ¬ (ci1 < 0 ∨ cl849.slots.size ≤ (ci1).toNatClampNeg) := (inb_of Sz849 ⟨by decide, by decide⟩)
  have at849 : cl849.slots[(ci1).toNatClampNeg]? = some (.int v834) := Hs849.at in849 rfl
  refine Go.step (fun _ k => X843.caload hx (j := ci1) (v := (.int v834)) (by rw [e843]; exact Ar849.1) (State.isArrayOf_alike hZ.alike Ar849.2.1) Ar849.2.2 in849 at849 (g := (mkF m 12 #[vr b811, .val cv1, vr b839, .val cv1, .val cv3, .val cv1, vi v833] [cv1, (.ref b811)])) rfl rfl (hb hby d35_12) _ (XS.istore X843.here hx rfl (hb hby d35_13) rfl (l' := #[vr b811, .val cv1, vr b839, .val cv1, .val cv3, .val cv1, vi v834]) rfl (XS.iload X843.here hx rfl (hb hby d35_15) rfl (XS.sipush X843.here hx rfl (hb hby d35_17) (XS.icmpYes X843.here hx rfl (pc0 := 20) (pc' := 26) rfl (hb hby d35_20) rfl (flt as_850).2.2.2 (by decide) (by decide) (XS.aloadN X843.here hx rfl (hb hby d35_26) rfl rfl (XS.iloadN X843.here hx rfl (hb hby d35_27) rfl (XS.iload X843.here hx rfl (hb hby d35_28) rfl (XS.i2b X843.here hx rfl (hb hby d35_30) rfl k))))))))) ?_
  show Go p e below s _ _ _ T843 (mkF m 31 #[vr b811, .val cv1, vr b839, .val cv1, .val cv3, .val cv1, vi v834] [(.int (v834.toInt8.toInt32)), cv1, (.ref b839)])
  obtain ⟨cl851, Ar851, qq851, Sz851, Ng851, Hs851, Ft851⟩ := id f845
  have in851 : ¬ (ci1 < 0 ∨ cl851.slots.size ≤ (ci1).toNatClampNeg) := (inb_of Sz851 ⟨by decide, by decide⟩)
  obtain ⟨T851, h851, X851, e851, W851, st851⟩ := stB X843 hx hZ e843 Ar851 (j := ci1) in851 (g := (mkF m 31 #[vr b811, .val cv1, vr b839, .val cv1, .val cv3, .val cv1, vi v834] [(.int (v834.toInt8.toInt32)), cv1, (.ref b839)])) rfl rfl (hb hby d35_31)
  have f852 : Arv Z h851 b839 k839 .byte ci3 [(.int (nar .byte (v833.toInt8.toInt32))), (.int (nar .byte (v834.toInt8.toInt32))), cv0] cv0 := Arv.set Ar851 qq851 Sz851 Ng851 Hs851 Ft851 (fits_nar_byte _) W851 1 rfl (Nat.le_of_ble_eq_true rfl)
  have N853 := Fr.snoc X851 N846 g_b839
  refine Go.step (fun _ k => st851 _ (XS.iinc X851.here hx rfl (hb hby d35_32) rfl (l' := #[vr b811, .val (.int (ci1 + ci1)), vr b839, .val cv1, .val cv3, .val cv1, vi v834]) rfl (XS.iinc X851.here hx rfl (hb hby d35_35) rfl (l' := #[vr b811, .val cv2, vr b839, .val (.int (ci1 + ci1)), .val cv3, .val cv1, vi v834]) rfl (XS.iinc X851.here hx rfl (hb hby d35_38) rfl (l' := #[vr b811, .val cv2, vr b839, .val cv2, .val cv3, .val (.int (ci1 + ci1)), vi v834]) rfl (XS.goto X851.here hx rfl (pc0 := 41) (pc' := 3) rfl (hb hby d35_41) (by decide) (by decide) (XS.iload X851.here hx rfl (hb hby d35_3) rfl (XS.iload X851.here hx rfl (hb hby d35_5) rfl (XS.icmpNo X851.here hx rfl (hb hby d35_7) rfl (tlt (by decide)).2.1 (XS.aloadN X851.here hx rfl (hb hby d35_10) rfl rfl (XS.iloadN X851.here hx rfl (hb hby d35_11) rfl k)))))))))) ?_
  show Go p e below s _ _ _ T851 (mkF m 12 #[vr b811, .val cv2, vr b839, .val cv2, .val cv3, .val cv2, vi v834] [cv2, (.ref b811)])
  have f854 := (f848.other W851 ne_b811_b839)
  obtain ⟨cl855, Ar855, -, Sz855, Ng855, Hs855, Ft855⟩ := id f854
  have in855 : ¬ (ci2 < 0 ∨ cl855.slots.size ≤ (ci2).toNatClampNeg) := (inb_of Sz855 ⟨by decide, by decide⟩)
  have at855 : cl855.slots[(ci2).toNatClampNeg]? = some (.int v835) := Hs855.at in855 rfl
  refine Go.step (fun _ k => X851.caload hx (j := ci2) (v := (.int v835)) (by rw [e851]; exact Ar855.1) (State.isArrayOf_alike hZ.alike Ar855.2.1) Ar855.2.2 in855 at855 (g := (mkF m 12 #[vr b811, .val cv2, vr b839, .val cv2, .val cv3, .val cv2, vi v834] [cv2, (.ref b811)])) rfl rfl (hb hby d35_12) _ (XS.istore X851.here hx rfl (hb hby d35_13) rfl (l' := #[vr b811, .val cv2, vr b839, .val cv2, .val cv3, .val cv2, vi v835]) rfl (XS.iload X851.here hx rfl (hb hby d35_15) rfl (XS.sipush X851.here hx rfl (hb hby d35_17) (XS.icmpYes X851.here hx rfl (pc0 := 20) (pc' := 26) rfl (hb hby d35_20) rfl (flt as_856).2.2.2 (by decide) (by decide) (XS.aloadN X851.here hx rfl (hb hby d35_26) rfl rfl (XS.iloadN X851.here hx rfl (hb hby d35_27) rfl (XS.iload X851.here hx rfl (hb hby d35_28) rfl (XS.i2b X851.here hx rfl (hb hby d35_30) rfl k))))))))) ?_
  show Go p e below s _ _ _ T851 (mkF m 31 #[vr b811, .val cv2, vr b839, .val cv2, .val cv3, .val cv2, vi v835] [(.int (v835.toInt8.toInt32)), cv2, (.ref b839)])
  obtain ⟨cl857, Ar857, qq857, Sz857, Ng857, Hs857, Ft857⟩ := id f852
  have in857 : ¬ (ci2 < 0 ∨ cl857.slots.size ≤ (ci2).toNatClampNeg) := (inb_of Sz857 ⟨by decide, by decide⟩)
  obtain ⟨T857, h857, X857, e857, W857, st857⟩ := stB X851 hx hZ e851 Ar857 (j := ci2) in857 (g := (mkF m 31 #[vr b811, .val cv2, vr b839, .val cv2, .val cv3, .val cv2, vi v835] [(.int (v835.toInt8.toInt32)), cv2, (.ref b839)])) rfl rfl (hb hby d35_31)
  have f858 : Arv Z h857 b839 k839 .byte ci3 [(.int (nar .byte (v833.toInt8.toInt32))), (.int (nar .byte (v834.toInt8.toInt32))), (.int (nar .byte (v835.toInt8.toInt32)))] cv0 := Arv.set Ar857 qq857 Sz857 Ng857 Hs857 Ft857 (fits_nar_byte _) W857 2 rfl (Nat.le_of_ble_eq_true rfl)
  have N859 := Fr.snoc X857 N853 g_b839
  refine Go.step (fun _ k => st857 _ (XS.iinc X857.here hx rfl (hb hby d35_32) rfl (l' := #[vr b811, .val (.int (ci2 + ci1)), vr b839, .val cv2, .val cv3, .val cv2, vi v835]) rfl (XS.iinc X857.here hx rfl (hb hby d35_35) rfl (l' := #[vr b811, .val cv3, vr b839, .val (.int (ci2 + ci1)), .val cv3, .val cv2, vi v835]) rfl (XS.iinc X857.here hx rfl (hb hby d35_38) rfl (l' := #[vr b811, .val cv3, vr b839, .val cv3, .val cv3, .val (.int (ci2 + ci1)), vi v835]) rfl (XS.goto X857.here hx rfl (pc0 := 41) (pc' := 3) rfl (hb hby d35_41) (by decide) (by decide) (XS.iload X857.here hx rfl (hb hby d35_3) rfl (XS.iload X857.here hx rfl (hb hby d35_5) rfl (XS.icmpYes X857.here hx rfl (pc0 := 7) (pc' := 44) rfl (hb hby d35_7) rfl (flt (by decide)).2.1 (by decide) (by decide) (XS.iload X857.here hx rfl (hb hby d35_44) rfl k))))))))) ?_
  show Go p e below s _ _ _ T857 (mkF m 46 #[vr b811, .val cv3, vr b839, .val cv3, .val cv3, .val cv3, vi v835] [cv3])
  have f860 := ((((Keep.refl h0 [b839]).wr W843 (Or.inl (List.mem_of_getElem? (i := 0) rfl))).wr W851 (Or.inl (List.mem_of_getElem? (i := 0) rfl))).wr W857 (Or.inl (List.mem_of_getElem? (i := 0) rfl)))
  have f861 := (Nat.le_trans (Nat.le_trans (Nat.le_trans (Nat.le_refl _) (Keep.of_wr W843).1) (Keep.of_wr W851).1) (Keep.of_wr W857).1)
  exact Go.retI X857 hx hlk Bd.returns (hb hby d35_46) e857 ⟨rfl, N859, f860, f858⟩ (by decide) (by decide)

theorem ef_StringUTF16_compress_4 (m : MethodId) (x0 : Addr) (x1 : Int32) (x2 : Int32) : entryFrame m #[(.ref x0), (.int x1), (.int x2)] 6 = mkF m 0 #[vr x0, vi x1, vi x2, .unset, .unset, .unset] [] := by first | (simp [entryFrame, mkF, argsToLocals, Value.category]; done) | rfl
def Q_StringUTF16_compress_4 (Z : State) (b811 : Addr) (k811 : ClassId) (v833 : Int32) (v834 : Int32) (v835 : Int32) (h0 : Heap) (n0 : Nat) (v : Option Value) (h : Heap) (L : List Loc) : Prop := ∃ (b839 : Addr) (k839 : ClassId), v = some (.ref b839) ∧ Fr n0 L ∧ Keep h0 h [] ∧ h0.size ≤ b839 ∧ Arv Z h b839 k839 .byte ci3 [(.int (nar .byte (v833.toInt8.toInt32))), (.int (nar .byte (v834.toInt8.toInt32))), (.int (nar .byte (v835.toInt8.toInt32)))] cv0
set_option maxRecDepth 65536 in
set_option maxHeartbeats 40000000 in
theorem rm_StringUTF16_compress_4 (l : Launch) (Z : State) (a0 : Array Value) (hw : ∀ d ∈ tables_1, d.before a0 Z = true) (ws : List Jvm.Cond) (b811 : Addr) (k811 : ClassId) (v833 : Int32) (v834 : Int32) (v835 : Int32) (h0 : Heap) (n0 : Nat) (Z0 : n0 ≤ h0.size) (V_b811 : Arv Z h0 b811 k811 .char ci3 [(.int v833), (.int v834), (.int v835)] cv0) (as_842 : ¬ ci255 < v833) (as_850 : ¬ ci255 < v834) (as_856 : ¬ ci255 < v835) :
    MetFree l xm3 (head1 (Jvm.Cond.code xm3 jdk_52_method_16_code 6 (some (.array .byte)) :: ws) xr31) (fun a U => a = #[(.ref b811), cv0, cv3] ∧ Z.Warmed39 U.vm ∧ U.heap = h0) (fun _ _ _ _ _ => True) (fun _ U o U' => ∃ v L, o = .returned v ∧ Q_StringUTF16_compress_4 Z b811 k811 v833 v834 v835 h0 n0 v U'.heap L ∧ FrameEnd U o U' L xr31.cells xr31.slots) := by
  refine MetFree.of_bodySF (plainFor_of_name pn_9) hisR ?_
  intro p e s m args below meth c s₁ Bd hml0 hP hK
  obtain ⟨rfl, hZ, hh⟩ := hP
  have hx := Bd.exec
  have hby := Bd.bytes
  have hlk : meth.locks = false := BodyLoose.notSynchronized Bd
  have hml : c.maxLocals = 6 := hml0
  have hown : s.vm.findClass xs19 = some m.cls := findClass_of_methodNamed Bd.named
  have hnm := (name_of_methodNamed Bd.named Bd.method).1
  have X0 : Stand p l e xr31 s m #[(.ref b811), cv0, cv3] below meth c s₁ [] 0 0 := Stand.of_body Bd
  have e0 : s₁.heap = h0 := by rw [← hh, Bd.state]; rfl
  have N0 := Fr.nil n0
  show Go p e below s (Q_StringUTF16_compress_4 Z b811 k811 v833 v834 v835 h0 n0) xr31.cells xr31.slots s₁ (entryFrame m #[(.ref b811), cv0, cv3] 6)
  refine Go.cast (ef_StringUTF16_compress_4 m b811 ci0 ci3) ?_
  show Go p e below s _ _ _ s₁ (mkF m 0 #[vr b811, .val cv0, .val cv3, .unset, .unset, .unset] [])
  refine Go.step (fun _ k => XS.iloadN X0.here hx rfl (hb hby d34_0) rfl k) ?_
  show Go p e below s _ _ _ s₁ (mkF m 1 #[vr b811, .val cv0, .val cv3, .unset, .unset, .unset] [cv3])
  obtain ⟨T839, h839, k839, X839, e839, E839, A839, st839⟩ := newP (aty := .byte) X0 hx hZ (tw26 hw) e0 (g := (mkF m 1 #[vr b811, .val cv0, .val cv3, .unset, .unset, .unset] [cv3])) rfl (hb hby d34_1) rfl (by decide) (cap := 3) (by decide) (by decide) (by decide) (by decide)
  obtain ⟨b839, g839⟩ : ∃ z, z = h0.size := ⟨_, rfl⟩
  rw [← g839] at A839 st839
  have f840 : Arv Z h839 b839 k839 .byte ci3 [cv0, cv0, cv0] cv0 := (Arv.new A839 (by decide)).pad (pad_rep [] cv0 3)
  refine Go.step (fun _ k => st839 _ (XS.astoreN X839.here hx rfl (hb hby d34_3) rfl rfl (l' := #[vr b811, .val cv0, .val cv3, vr b839, .unset, .unset]) rfl (XS.aloadN X839.here hx rfl (hb hby d34_4) rfl rfl (XS.iloadN X839.here hx rfl (hb hby d34_5) rfl (XS.aloadN X839.here hx rfl (hb hby d34_6) rfl rfl (XS.iconst X839.here hx rfl (hb hby d34_7) (XS.iloadN X839.here hx rfl (hb hby d34_8) rfl k))))))) ?_
  show Go p e below s _ _ _ T839 (mkF m 9 #[vr b811, .val cv0, .val cv3, vr b839, .unset, .unset] [cv3, cv0, (.ref b839), cv0, (.ref b811)])
  have g844 := Nat.le_trans Z0 (Nat.le_of_eq g839.symm)
  have ne847 : b811 ≠ b839 := Nat.ne_of_lt (Nat.lt_of_lt_of_le V_b811.lt (Nat.le_of_eq g839.symm))
  have f862 := (Nat.le_trans Z0 E839.1)
  have f863 := (V_b811.ext E839)
  obtain ⟨_, _, ⟨T864, L864, k864, n864⟩, -, X864, ⟨Lc864, hQ864, l864, y864, z864⟩, st864⟩ := Jvm.LawKit.callS X839 hx (y := xm1) hown (mvT hZ (tw27 hw)) (mvT hZ (tw28 hw)) (mvT hZ (tw24 hw)) (mvT hZ (tw29 hw)) (by decide) (backOf (W := 0) (rm_StringUTF16_compress_5 l Z a0 hw [] b811 b839 k811 v833 v834 v835 k839 h839 n0 f862 f863 as_842 f840 g844 ne847 as_850 as_856) hZ (tw29 hw) (tw24 hw) (by decide) (by decide)) (g := (mkF m 9 #[vr b811, .val cv0, .val cv3, vr b839, .unset, .unset] [cv3, cv0, (.ref b839), cv0, (.ref b811)])) rfl (by rw [hml]; rfl) (argsL := [(.ref b811), cv0, (.ref b839), cv0, cv3]) (rest := []) (lenOf pd_26 rfl) rfl (Nat.le_of_eq rfl) (hb hby d34_9) (fun _ _ => ⟨rfl, e839, (by decide : 1 + 0 ≤ _), (by decide : 3 + 0 ≤ _)⟩)
  dsimp only [Pt.U, Pt.locs, Pt.cells, Pt.slots] at X864 l864 y864 z864 st864 hQ864
  subst l864 y864 z864
  obtain ⟨rfl, N864q, K864, P864_0⟩ := hQ864
  have N865 := Fr.app N0 N864q
  refine Go.step (fun _ k => st864 _ (XS.istore X864.here hx rfl (hb hby d34_12) rfl (l' := #[vr b811, .val cv0, .val cv3, vr b839, .val cv3, .unset]) rfl (XS.iload X864.here hx rfl (hb hby d34_14) rfl (XS.iloadN X864.here hx rfl (hb hby d34_16) rfl (XS.icmpYes X864.here hx rfl (pc0 := 17) (pc' := 57) rfl (hb hby d34_17) rfl (teq (by decide)).1 (by decide) (by decide) (XS.aloadN X864.here hx rfl (hb hby d34_57) rfl rfl k)))))) ?_
  show Go p e below s _ _ _ T864 (mkF m 58 #[vr b811, .val cv0, .val cv3, vr b839, .val cv3, .unset] [(.ref b839)])
  have z866 := Nat.le_trans (Nat.le_refl _) (Nat.le_of_eq g839.symm)
  have f867 := (((Keep.refl h0 []).ext E839).trans K864 (allS (Or.inr z866) all0))
  have f868 := (Nat.le_trans (Nat.le_trans (Nat.le_refl _) E839.1) K864.1)
  exact Go.retA X864 hx hlk Bd.returns rfl rfl (hb hby d34_58) rfl ⟨b839, k839, rfl, N865, f867, z866, P864_0⟩ (by decide) (by decide)

theorem ef_StringUTF16_coderFromArrayLen_2 (m : MethodId) (x0 : Addr) (x1 : Int32) : entryFrame m #[(.ref x0), (.int x1)] 2 = mkF m 0 #[vr x0, vi x1] [] := by first | (simp [entryFrame, mkF, argsToLocals, Value.category]; done) | rfl
def Q_StringUTF16_coderFromArrayLen_2 (Z : State) (uu39 : Addr) (uu40 : ClassId) (v871 : Int32) (v872 : Int32) (v873 : Int32) (h0 : Heap) (n0 : Nat) (v : Option Value) (h : Heap) (L : List Loc) : Prop := v = some cv0 ∧ Fr n0 L ∧ h = h0
set_option maxRecDepth 65536 in
set_option maxHeartbeats 40000000 in
theorem rm_StringUTF16_coderFromArrayLen_2 (l : Launch) (Z : State) (a0 : Array Value) (hw : ∀ d ∈ tables_1, d.before a0 Z = true) (ws : List Jvm.Cond) (uu39 : Addr) (uu40 : ClassId) (v871 : Int32) (v872 : Int32) (v873 : Int32) (h0 : Heap) (n0 : Nat) (Z0 : n0 ≤ h0.size) (V_b839_869 : Arv Z h0 uu39 uu40 .byte ci3 [(.int v871), (.int v872), (.int v873)] cv0) :
    MetFree l xm27 (head1 (Jvm.Cond.code xm27 jdk_52_method_15_code 2 (some .byte) :: ws) xr34) (fun a U => a = #[(.ref uu39), cv3] ∧ Z.Warmed39 U.vm ∧ U.heap = h0) (fun _ _ _ _ _ => True) (fun _ U o U' => ∃ v L, o = .returned v ∧ Q_StringUTF16_coderFromArrayLen_2 Z uu39 uu40 v871 v872 v873 h0 n0 v U'.heap L ∧ FrameEnd U o U' L xr34.cells xr34.slots) := by
  refine MetFree.of_bodySF (plainFor_of_name pn_9) hisR ?_
  intro p e s m args below meth c s₁ Bd hml0 hP hK
  obtain ⟨rfl, hZ, hh⟩ := hP
  have hx := Bd.exec
  have hby := Bd.bytes
  have hlk : meth.locks = false := BodyLoose.notSynchronized Bd
  have hml : c.maxLocals = 2 := hml0
  have hown : s.vm.findClass xs19 = some m.cls := findClass_of_methodNamed Bd.named
  have hnm := (name_of_methodNamed Bd.named Bd.method).1
  have X0 : Stand p l e xr34 s m #[(.ref uu39), cv3] below meth c s₁ [] 0 0 := Stand.of_body Bd
  have e0 : s₁.heap = h0 := by rw [← hh, Bd.state]; rfl
  have N0 := Fr.nil n0
  show Go p e below s (Q_StringUTF16_coderFromArrayLen_2 Z uu39 uu40 v871 v872 v873 h0 n0) xr34.cells xr34.slots s₁ (entryFrame m #[(.ref uu39), cv3] 2)
  refine Go.cast (ef_StringUTF16_coderFromArrayLen_2 m uu39 ci3) ?_
  show Go p e below s _ _ _ s₁ (mkF m 0 #[vr uu39, .val cv3] [])
  refine Go.step (fun _ k => XS.iloadN X0.here hx rfl (hb hby d36_0) rfl (XS.aloadN X0.here hx rfl (hb hby d36_1) rfl rfl k)) ?_
  show Go p e below s _ _ _ s₁ (mkF m 2 #[vr uu39, .val cv3] [(.ref uu39), cv3])
  obtain ⟨cl874, Ar874, -, Sz874, Ng874, -, -⟩ := id V_b839_869
  have aln874 := X0.arraylength hx (by rw [e0]; exact Ar874.1) (State.isArrayOf_alike hZ.alike Ar874.2.1) (g := (mkF m 2 #[vr uu39, .val cv3] [(.ref uu39), cv3])) rfl rfl (hb hby d36_2)
  rw [len_of Sz874 Ng874] at aln874
  refine Go.step (fun _ k => aln874 _ (XS.isub X0.here hx rfl (hb hby d36_3) rfl (XS.bipush X0.here hx rfl (hb hby d36_4) (XS.iushr X0.here hx rfl (hb hby d36_6) rfl (XS.i2b X0.here hx rfl (hb hby d36_7) rfl k))))) ?_
  show Go p e below s _ _ _ s₁ (mkF m 8 #[vr uu39, .val cv3] [cv0])
  exact Go.retN X0 hx hlk (t := .byte) Bd.returns (by simp) (hb hby d36_8) e0 ⟨rfl, N0, rfl⟩ (by decide) (by decide)

theorem ef_String_new_9 (m : MethodId) (x0 : Addr) (x1 : Addr) (x2 : Int32) (x3 : Int32) : entryFrame m #[(.ref x0), (.ref x1), (.int x2), (.int x3), .null] 6 = mkF m 0 #[vr x0, vr x1, vi x2, vi x3, .val .null, .unset] [] := by first | (simp [entryFrame, mkF, argsToLocals, Value.category]; done) | rfl
def Q_String_new_9 (Z : State) (b808 : Addr) (b811 : Addr) (cs : Int32) (k811 : ClassId) (v833 : Int32) (v834 : Int32) (v835 : Int32) (h0 : Heap) (n0 : Nat) (v : Option Value) (h : Heap) (L : List Loc) : Prop := ∃ (uu39 : Addr) (uu40 : ClassId), v = none ∧ Fr n0 L ∧ Keep h0 h [b808] ∧ Fld Z h b808 xs25 "coder" "B" cv0 ∧ Fld Z h b808 xs25 "value" "[B" (.ref uu39) ∧ h0.size ≤ uu39 ∧ Arv Z h uu39 uu40 .byte ci3 [(.int (nar .byte (v833.toInt8.toInt32))), (.int (nar .byte (v834.toInt8.toInt32))), (.int (nar .byte (v835.toInt8.toInt32)))] cv0
set_option maxRecDepth 65536 in
set_option maxHeartbeats 40000000 in
theorem rm_String_new_9 (l : Launch) (Z : State) (a0 : Array Value) (hw : ∀ d ∈ tables_1, d.before a0 Z = true) (ws : List Jvm.Cond) (b808 : Addr) (b811 : Addr) (cs : Int32) (k811 : ClassId) (v833 : Int32) (v834 : Int32) (v835 : Int32) (h0 : Heap) (n0 : Nat) (Z0 : n0 ≤ h0.size) (Z_S_COMPACT_STRINGS : Sta Z Z.heap xs25 xs28 "Z" (.int cs)) (O0 : Old Z n0 h0) (hcs : ¬ cs = ci0) (V_b811 : Arv Z h0 b811 k811 .char ci3 [(.int v833), (.int v834), (.int v835)] cv0) (as_842 : ¬ ci255 < v833) (as_850 : ¬ ci255 < v834) (as_856 : ¬ ci255 < v835) (E_b808 : Exa Z h0 b808 xs25) (F_coder_b808 : Fld Z h0 b808 xs25 "coder" "B" cv0) (g_b808 : n0 ≤ b808) (F_value_b808 : Fld Z h0 b808 xs25 "value" "[B" .null) :
    MetFree l xm22 (head1 (Jvm.Cond.code xm22 jdk_42_method_149_code 6 none :: ws) xr32) (fun a U => a = #[(.ref b808), (.ref b811), cv0, cv3, .null] ∧ Z.Warmed39 U.vm ∧ U.heap = h0 ∧ CHv Z consts_1 U.vm h0) (fun _ _ _ _ _ => True) (fun _ U o U' => ∃ v L, o = .returned v ∧ Q_String_new_9 Z b808 b811 cs k811 v833 v834 v835 h0 n0 v U'.heap L ∧ CHr Z consts_1 U.vm U.heap U'.vm U'.heap ∧ ReturnedEndW U o U' L xr32.cells xr32.slots) := by
  refine MetFree.of_bodySF (plainFor_of_name pn_1) hisR ?_
  intro p e s m args below meth c s₁ Bd hml0 hP hK
  obtain ⟨rfl, hZ, hh, hCH⟩ := hP
  have hx := Bd.exec
  have hby := Bd.bytes
  have hlk : meth.locks = false := BodyLoose.notSynchronized Bd
  have hml : c.maxLocals = 6 := hml0
  have hown : s.vm.findClass xs25 = some m.cls := findClass_of_methodNamed Bd.named
  have hnm := (name_of_methodNamed Bd.named Bd.method).1
  have X0 : Stand p l e xr32 (s.setVm s.vm) m #[(.ref b808), (.ref b811), cv0, cv3, .null] below meth c s₁ [] 0 0 := Stand.of_body Bd
  have e0 : s₁.heap = h0 := by rw [← hh, Bd.state]; rfl
  have N0 := Fr.nil n0
  have hS0 : s.Since s.vm h0.size := (State.WarmedH.refl s).since _
  have CH0 : CHr Z consts_1 s.vm s.heap s.vm h0 := by rw [hh]; exact CHr.refl hCH
  have hZ_0 := hZ
  show GoH p e below s (((Q_String_new_9 Z b808 b811 cs k811 v833 v834 v835 h0 n0, fun vm h => CHr Z consts_1 s.vm s.heap vm h) : (Option Value → Heap → List Loc → Prop) × (Vm → Heap → Prop))) xr32.cells xr32.slots s₁ (entryFrame m #[(.ref b808), (.ref b811), cv0, cv3, .null] 6)
  refine GoH.cast (ef_String_new_9 m b808 b811 ci0 ci3) ?_
  show GoH p e below s _ _ _ s₁ (mkF m 0 #[vr b808, vr b811, .val cv0, .val cv3, .val .null, .unset] [])
  refine GoH.step (fun _ k => XS.aloadN X0.here hx rfl (hb hby d5_0) rfl rfl k) ?_
  show GoH p e below s _ _ _ s₁ (mkF m 1 #[vr b808, vr b811, .val cv0, .val cv3, .val .null, .unset] [(.ref b808)])
  obtain ⟨T837, X837, e837, st837⟩ := initO X0 hx hZ hown (tw18 hw) (tw19 hw) (tw20 hw) e0 (g := (mkF m 1 #[vr b808, vr b811, .val cv0, .val cv3, .val .null, .unset] [(.ref b808)])) rfl (by rw [hml]; rfl) rfl (hb hby d5_1) (by decide) (W := 0) (Nat.le_of_eq rfl) (by decide)
  refine GoH.step (fun _ k => st837 _ (XS.iloadN X837.here hx rfl (hb hby d5_4) rfl (XS.ifYes X837.here hx rfl (pc0 := 5) (pc' := 27) rfl (hb hby d5_5) rfl ((if0 _ _).trans (feq (by decide)).2) (by decide) (by decide) k))) ?_
  show GoH p e below s _ _ _ T837 (mkF m 27 #[vr b808, vr b811, .val cv0, .val cv3, .val .null, .unset] [])
  obtain ⟨T838, X838, e838, st838⟩ := getS2 X837 hx hZ hown (host := "") (Or.inl (tw21 hw)) Via.refl e837 (Z_S_COMPACT_STRINGS.ext O0.2) (g := (mkF m 27 #[vr b808, vr b811, .val cv0, .val cv3, .val .null, .unset] [])) rfl (hb hby d5_27)
  refine GoH.step (fun _ k => st838 _ (XS.ifNo X838.here hx rfl (hb hby d5_30) rfl ((if0 _ _).trans (feq hcs).1) (XS.aloadN X838.here hx rfl (hb hby d5_33) rfl rfl (XS.iloadN X838.here hx rfl (hb hby d5_34) rfl (XS.iloadN X838.here hx rfl (hb hby d5_35) rfl k))))) ?_
  show GoH p e below s _ _ _ T838 (mkF m 36 #[vr b808, vr b811, .val cv0, .val cv3, .val .null, .unset] [cv3, cv0, (.ref b811)])
  obtain ⟨_, _, ⟨T869, L869, k869, n869⟩, -, X869, ⟨Lc869, hQ869, l869, y869, z869⟩, st869⟩ := Jvm.LawKit.callS X838 hx (y := xm3) hown (mvT hZ (tw22 hw)) (mvT hZ (tw23 hw)) (mvT hZ (tw24 hw)) (mvT hZ (tw25 hw)) (by decide) (backOf (W := 0) (rm_StringUTF16_compress_4 l Z a0 hw [] b811 k811 v833 v834 v835 h0 n0 Z0 V_b811 as_842 as_850 as_856) hZ (tw25 hw) (tw24 hw) (by decide) (by decide)) (g := (mkF m 36 #[vr b808, vr b811, .val cv0, .val cv3, .val .null, .unset] [cv3, cv0, (.ref b811)])) rfl (by rw [hml]; rfl) (argsL := [(.ref b811), cv0, cv3]) (rest := []) (lenOf pd_27 rfl) rfl (Nat.le_of_eq rfl) (hb hby d5_36) (fun _ _ => ⟨rfl, e838, (by decide : 0 + 1 ≤ _), (by decide : 0 + 3 ≤ _)⟩)
  dsimp only [Pt.U, Pt.locs, Pt.cells, Pt.slots] at X869 l869 y869 z869 st869 hQ869
  subst l869 y869 z869
  obtain ⟨uu39, uu40, rfl, N869q, K869, P869_0, P869_1⟩ := hQ869
  have N870 := Fr.app N0 N869q
  refine GoH.step (fun _ k => st869 _ (XS.astore X869.here hx rfl (hb hby d5_39) rfl rfl (l' := #[vr b808, vr b811, .val cv0, .val cv3, .val .null, vr uu39]) rfl (XS.aloadN X869.here hx rfl (hb hby d5_41) rfl rfl (XS.aload X869.here hx rfl (hb hby d5_42) rfl rfl (XS.iloadN X869.here hx rfl (hb hby d5_44) rfl k))))) ?_
  show GoH p e below s _ _ _ T869 (mkF m 45 #[vr b808, vr b811, .val cv0, .val cv3, .val .null, vr uu39] [cv3, (.ref uu39), (.ref b808)])
  have f875 := (Nat.le_trans Z0 K869.1)
  obtain ⟨_, _, ⟨T876, L876, k876, n876⟩, -, X876, ⟨Lc876, hQ876, l876, y876, z876⟩, st876⟩ := Jvm.LawKit.callS X869 hx (y := xm27) hown (mvT hZ (tw30 hw)) (mvT hZ (tw31 hw)) (mvT hZ (tw24 hw)) (mvT hZ (tw32 hw)) (by decide) (backOf (W := 1) (rm_StringUTF16_coderFromArrayLen_2 l Z a0 hw [] uu39 uu40 (nar .byte (v833.toInt8.toInt32)) (nar .byte (v834.toInt8.toInt32)) (nar .byte (v835.toInt8.toInt32)) T869.heap n0 f875 P869_1) hZ (tw32 hw) (tw24 hw) (by decide) (by decide)) (g := (mkF m 45 #[vr b808, vr b811, .val cv0, .val cv3, .val .null, vr uu39] [cv3, (.ref uu39), (.ref b808)])) rfl (by rw [hml]; rfl) (argsL := [(.ref uu39), cv3]) (rest := [(.ref b808)]) (lenOf pd_28 rfl) rfl (Nat.le_of_eq rfl) (hb hby d5_45) (fun _ _ => ⟨rfl, rfl, (by decide : 1 + 0 ≤ _), (by decide : 3 + 0 ≤ _)⟩)
  dsimp only [Pt.U, Pt.locs, Pt.cells, Pt.slots] at X876 l876 y876 z876 st876 hQ876
  subst l876 y876 z876
  obtain ⟨rfl, N876q, eq876⟩ := hQ876
  have N877 := Fr.app N870 N876q
  refine GoH.step (fun _ k => st876 _ k) ?_
  show GoH p e below s _ _ _ T876 (mkF m 48 #[vr b808, vr b811, .val cv0, .val cv3, .val .null, vr uu39] [cv0, (.ref b808)])
  have f878 := (F_coder_b808.keep K869 nin0)
  have f879 := (E_b808.keep K869)
  obtain ⟨T880, h880, X880, e880, W880, st880⟩ := putFN X876 hx hZ hown (tw33 hw) Via.refl eq876 f878 f879 (Or.inr ⟨(tw34 hw), rfl, hnm⟩) (tw5 hw) (ty := .byte) (v' := cv0) (by decide) rfl rfl (g := (mkF m 48 #[vr b808, vr b811, .val cv0, .val cv3, .val .null, vr uu39] [cv0, (.ref b808)])) rfl rfl (hb hby d5_48)
  have f882 := f878.same W880
  have N883 := Fr.snoc X880 N877 g_b808
  refine GoH.step (fun _ k => st880 _ (XS.aloadN X880.here hx rfl (hb hby d5_51) rfl rfl (XS.aload X880.here hx rfl (hb hby d5_52) rfl rfl k))) ?_
  show GoH p e below s _ _ _ T880 (mkF m 54 #[vr b808, vr b811, .val cv0, .val cv3, .val .null, vr uu39] [(.ref uu39), (.ref b808)])
  have f884 := ((F_value_b808.keep K869 nin0).other W880 (Or.inr (slot_ne (Or.inr (tw36 hw)) (Or.inr (tw34 hw)) (by decide) (t := (.array .byte)) (t' := .byte) (by decide) (by decide))))
  have f885 := (f879.wr W880)
  obtain ⟨T886, h886, X886, e886, W886, st886⟩ := putF X880 hx hZ hown (host := "") (Or.inl (tw35 hw)) Via.refl e880 f884 f885 (Or.inr ⟨(tw36 hw), rfl, hnm⟩) (tw5 hw) (ty := (.array .byte)) (by decide) rfl rfl (g := (mkF m 54 #[vr b808, vr b811, .val cv0, .val cv3, .val .null, vr uu39] [(.ref uu39), (.ref b808)])) rfl rfl (hb hby d5_54)
  have f887 := f884.same W886
  have N888 := Fr.snoc X886 N883 g_b808
  refine GoH.step (fun _ k => st886 _ k) ?_
  show GoH p e below s _ _ _ T886 (mkF m 57 #[vr b808, vr b811, .val cv0, .val cv3, .val .null, vr uu39] [])
  have f889 := ((((Keep.refl h0 [b808]).trans K869 all0).wr W880 (Or.inl (List.mem_of_getElem? (i := 0) rfl))).wr W886 (Or.inl (List.mem_of_getElem? (i := 0) rfl)))
  have f890 := (f882.other W886 (Or.inr (slot_ne (Or.inr (tw34 hw)) (Or.inr (tw36 hw)) (by decide) (t := .byte) (t' := (.array .byte)) (by decide) (by decide))))
  have z891 := Nat.le_trans (Nat.le_refl _) P869_0
  have ne892 : b808 ≠ uu39 := Nat.ne_of_lt (Nat.lt_of_lt_of_le E_b808.lt P869_0)
  have f893 := ((P869_1.other W880 (Ne.symm ne892)).other W886 (Ne.symm ne892))
  have f894 := (Nat.le_trans (Nat.le_trans (Nat.le_trans (Nat.le_refl _) K869.1) (Keep.of_wr W880).1) (Keep.of_wr W886).1)
  have f895 := (F_value_b808.keep K869 nin0)
  have sf896 := own_safeN (EL := consts_1) hZ_0.alike f895 f879
  have f897 := (own_chK CH0 K869 sf0)
  have f898 := (Safe.wr W880 sf896 f897.1 sf896)
  have f899 := (own_chW (own_chW (own_chK CH0 K869 sf0) W880 sf896) W886 f898)
  exact GoH.retV X886 hS0 hx hlk Bd.returns (hb hby d5_57) e886 f894 ⟨uu39, uu40, rfl, N888, f889, f890, f887, z891, f893⟩ (f899.trans (CHv.at X886 hZ_0 (own_EW hw) f899.1)) (by decide) (by decide)

theorem ef_String_new_8 (m : MethodId) (x0 : Addr) (x1 : Addr) : entryFrame m #[(.ref x0), (.ref x1)] 2 = mkF m 0 #[vr x0, vr x1] [] := by first | (simp [entryFrame, mkF, argsToLocals, Value.category]; done) | rfl
def Q_String_new_8 (Z : State) (b808 : Addr) (b811 : Addr) (k811 : ClassId) (v833 : Int32) (v834 : Int32) (v835 : Int32) (cs : Int32) (h0 : Heap) (n0 : Nat) (v : Option Value) (h : Heap) (L : List Loc) : Prop := ∃ (uu41 : Addr) (uu42 : ClassId), v = none ∧ Fr n0 L ∧ Keep h0 h [b808] ∧ Fld Z h b808 xs25 "coder" "B" cv0 ∧ Fld Z h b808 xs25 "value" "[B" (.ref uu41) ∧ h0.size ≤ uu41 ∧ Arv Z h uu41 uu42 .byte ci3 [(.int (nar .byte (v833.toInt8.toInt32))), (.int (nar .byte (v834.toInt8.toInt32))), (.int (nar .byte (v835.toInt8.toInt32)))] cv0
set_option maxRecDepth 65536 in
set_option maxHeartbeats 40000000 in
theorem rm_String_new_8 (l : Launch) (Z : State) (a0 : Array Value) (hw : ∀ d ∈ tables_1, d.before a0 Z = true) (ws : List Jvm.Cond) (b808 : Addr) (b811 : Addr) (k811 : ClassId) (v833 : Int32) (v834 : Int32) (v835 : Int32) (cs : Int32) (h0 : Heap) (n0 : Nat) (Z0 : n0 ≤ h0.size) (V_b811 : Arv Z h0 b811 k811 .char ci3 [(.int v833), (.int v834), (.int v835)] cv0) (Z_S_COMPACT_STRINGS : Sta Z Z.heap xs25 xs28 "Z" (.int cs)) (O0 : Old Z n0 h0) (hcs : ¬ cs = ci0) (as_842 : ¬ ci255 < v833) (as_850 : ¬ ci255 < v834) (as_856 : ¬ ci255 < v835) (E_b808 : Exa Z h0 b808 xs25) (F_coder_b808 : Fld Z h0 b808 xs25 "coder" "B" cv0) (g_b808 : n0 ≤ b808) (F_value_b808 : Fld Z h0 b808 xs25 "value" "[B" .null) :
    MetFree l xm8 (head1 (Jvm.Cond.code xm8 jdk_42_method_3_code 2 none :: ws) xr33) (fun a U => a = #[(.ref b808), (.ref b811)] ∧ Z.Warmed39 U.vm ∧ U.heap = h0 ∧ CHv Z consts_1 U.vm h0) (fun _ _ _ _ _ => True) (fun _ U o U' => ∃ v L, o = .returned v ∧ Q_String_new_8 Z b808 b811 k811 v833 v834 v835 cs h0 n0 v U'.heap L ∧ CHr Z consts_1 U.vm U.heap U'.vm U'.heap ∧ ReturnedEndW U o U' L xr33.cells xr33.slots) := by
  refine MetFree.of_bodySF (plainFor_of_name pn_1) hisR ?_
  intro p e s m args below meth c s₁ Bd hml0 hP hK
  obtain ⟨rfl, hZ, hh, hCH⟩ := hP
  have hx := Bd.exec
  have hby := Bd.bytes
  have hlk : meth.locks = false := BodyLoose.notSynchronized Bd
  have hml : c.maxLocals = 2 := hml0
  have hown : s.vm.findClass xs25 = some m.cls := findClass_of_methodNamed Bd.named
  have hnm := (name_of_methodNamed Bd.named Bd.method).1
  have X0 : Stand p l e xr33 (s.setVm s.vm) m #[(.ref b808), (.ref b811)] below meth c s₁ [] 0 0 := Stand.of_body Bd
  have e0 : s₁.heap = h0 := by rw [← hh, Bd.state]; rfl
  have N0 := Fr.nil n0
  have hS0 : s.Since s.vm h0.size := (State.WarmedH.refl s).since _
  have CH0 : CHr Z consts_1 s.vm s.heap s.vm h0 := by rw [hh]; exact CHr.refl hCH
  have hZ_0 := hZ
  show GoH p e below s (((Q_String_new_8 Z b808 b811 k811 v833 v834 v835 cs h0 n0, fun vm h => CHr Z consts_1 s.vm s.heap vm h) : (Option Value → Heap → List Loc → Prop) × (Vm → Heap → Prop))) xr33.cells xr33.slots s₁ (entryFrame m #[(.ref b808), (.ref b811)] 2)
  refine GoH.cast (ef_String_new_8 m b808 b811) ?_
  show GoH p e below s _ _ _ s₁ (mkF m 0 #[vr b808, vr b811] [])
  refine GoH.step (fun _ k => XS.aloadN X0.here hx rfl (hb hby d4_0) rfl rfl (XS.aloadN X0.here hx rfl (hb hby d4_1) rfl rfl (XS.iconst X0.here hx rfl (hb hby d4_2) (XS.aloadN X0.here hx rfl (hb hby d4_3) rfl rfl k)))) ?_
  show GoH p e below s _ _ _ s₁ (mkF m 4 #[vr b808, vr b811] [(.ref b811), cv0, (.ref b811), (.ref b808)])
  obtain ⟨cl836, Ar836, -, Sz836, Ng836, -, -⟩ := id V_b811
  have aln836 := X0.arraylength hx (by rw [e0]; exact Ar836.1) (State.isArrayOf_alike hZ.alike Ar836.2.1) (g := (mkF m 4 #[vr b808, vr b811] [(.ref b811), cv0, (.ref b811), (.ref b808)])) rfl rfl (hb hby d4_4)
  rw [len_of Sz836 Ng836] at aln836
  refine GoH.step (fun _ k => aln836 _ (XS.aconstNull X0.here hx rfl (hb hby d4_5) k)) ?_
  show GoH p e below s _ _ _ s₁ (mkF m 6 #[vr b808, vr b811] [.null, cv3, cv0, (.ref b811), (.ref b808)])
  obtain ⟨_, _, ⟨T900, L900, k900, n900⟩, -, X900s, hs900, hg900, ⟨Lc900, hQ900, l900, y900, z900, ch900⟩, st900⟩ := X0.specialBackS hx (y := xm22) rfl hown (mvT hZ (tw14 hw)) (mvT hZ (tw15 hw)) (mvT hZ (tw17 hw)) (by decide) (backOfSH (W := 0) (rm_String_new_9 l Z a0 hw [] b808 b811 cs k811 v833 v834 v835 h0 n0 Z0 Z_S_COMPACT_STRINGS O0 hcs V_b811 as_842 as_850 as_856 E_b808 F_coder_b808 g_b808 F_value_b808) hZ (tw17 hw) (tw6 hw) (by decide) (by decide) (own_EW hw) CH0.1) (g := (mkF m 6 #[vr b808, vr b811] [.null, cv3, cv0, (.ref b811), (.ref b808)])) rfl (by rw [hml]; rfl) (Steps.refl _) (a := b808) (argsL := [(.ref b811), cv0, cv3, .null]) (rest := []) (lenOf pd_1 rfl) rfl (Nat.le_of_eq rfl) (hb hby d4_6) (fun _ _ => ⟨rfl, e0, (by decide : 0 + 1 ≤ _), (by decide : 0 + 3 ≤ _)⟩)
  dsimp only [Pt.U, Pt.locs, Pt.cells, Pt.slots] at X900s hs900 hg900 l900 y900 z900 st900 hQ900 ch900
  subst l900 y900 z900
  obtain ⟨X900, hS900, hZ900, hown900⟩ := rebS hS0 (by rw [e0]; exact (Nat.le_refl _)) X900s hs900 hg900 hZ hown
  obtain ⟨uu41, uu42, rfl, N900q, K900, P900_0, P900_1, P900_2, P900_3⟩ := hQ900
  have N901 := Fr.app N0 N900q
  have f902 := CH0.trans ch900
  refine GoH.step (fun _ k => st900.trans k) ?_
  show GoH p e below s _ _ _ T900 (mkF m 9 #[vr b808, vr b811] [])
  have f903 := ((Keep.refl h0 [b808]).trans K900 (allS (Or.inl (List.mem_of_getElem? (i := 0) rfl)) all0))
  have z904 := Nat.le_trans (Nat.le_refl _) P900_2
  exact GoH.retV X900 hS900 hx hlk Bd.returns (hb hby d4_9) rfl (Nat.le_refl _) ⟨uu41, uu42, rfl, N901, f903, P900_0, P900_1, z904, P900_3⟩ (f902.trans (CHv.at X900 hZ900 (own_EW hw) f902.1)) (by decide) (by decide)

theorem ef_ObjectRefToStringPinLaw_make_3 (m : MethodId) (x0 : Int32) (x1 : Int32) : entryFrame m #[(.int x0), (.int x1)] 2 = mkF m 0 #[vi x0, vi x1] [] := by first | (simp [entryFrame, mkF, argsToLocals, Value.category]; done) | rfl
def Q_ObjectRefToStringPinLaw_make_3 (Z : State) (p2 : Int32) (cs : Int32) (h0 : Heap) (n0 : Nat) (v : Option Value) (h : Heap) (L : List Loc) : Prop := ∃ (b808 : Addr) (uu43 : Addr) (uu44 : ClassId), v = some (.ref b808) ∧ Fr n0 L ∧ Keep h0 h [] ∧ h0.size ≤ b808 ∧ Exa Z h b808 xs25 ∧ Fld Z h b808 xs25 "coder" "B" cv0 ∧ Fld Z h b808 xs25 "value" "[B" (.ref uu43) ∧ h0.size ≤ uu43 ∧ Arv Z h uu43 uu44 .byte ci3 [(.int (nar .byte ((nar .char (own_ch p2 ci0)).toInt8.toInt32))), (.int (nar .byte ((nar .char (own_ch p2 ci1)).toInt8.toInt32))), (.int (nar .byte ((nar .char (own_ch p2 ci2)).toInt8.toInt32)))] cv0 ∧ b808 ≠ uu43
set_option maxRecDepth 65536 in
set_option maxHeartbeats 40000000 in
theorem rm_ObjectRefToStringPinLaw_make_3 (l : Launch) (Z : State) (a0 : Array Value) (hw : ∀ d ∈ tables_1, d.before a0 Z = true) (ws : List Jvm.Cond) (p2 : Int32) (cs : Int32) (h0 : Heap) (n0 : Nat) (Z0 : n0 ≤ h0.size) (Z_S_COMPACT_STRINGS : Sta Z Z.heap xs25 xs28 "Z" (.int cs)) (O0 : Old Z n0 h0) (hcs : ¬ cs = ci0) (as_842 : ¬ ci255 < (nar .char (own_ch p2 ci0))) (as_850 : ¬ ci255 < (nar .char (own_ch p2 ci1))) (as_856 : ¬ ci255 < (nar .char (own_ch p2 ci2))) :
    MetFree l xm33 (head1 (Jvm.Cond.code xm33 method_5_code 2 (some (.object xs25)) :: ws) xr9) (fun a U => a = #[(.int p2), cv3] ∧ Z.Warmed39 U.vm ∧ U.heap = h0 ∧ CHv Z consts_1 U.vm h0) (fun _ _ _ _ _ => True) (fun _ U o U' => ∃ v L, o = .returned v ∧ Q_ObjectRefToStringPinLaw_make_3 Z p2 cs h0 n0 v U'.heap L ∧ CHr Z consts_1 U.vm U.heap U'.vm U'.heap ∧ ReturnedEndW U o U' L xr9.cells xr9.slots) := by
  refine MetFree.of_bodySF (plainFor_of_name pn_2) hisR ?_
  intro p e s m args below meth c s₁ Bd hml0 hP hK
  obtain ⟨rfl, hZ, hh, hCH⟩ := hP
  have hx := Bd.exec
  have hby := Bd.bytes
  have hlk : meth.locks = false := BodyLoose.notSynchronized Bd
  have hml : c.maxLocals = 2 := hml0
  have hown : s.vm.findClass xs0 = some m.cls := findClass_of_methodNamed Bd.named
  have hnm := (name_of_methodNamed Bd.named Bd.method).1
  have X0 : Stand p l e xr9 (s.setVm s.vm) m #[(.int p2), cv3] below meth c s₁ [] 0 0 := Stand.of_body Bd
  have e0 : s₁.heap = h0 := by rw [← hh, Bd.state]; rfl
  have N0 := Fr.nil n0
  have hS0 : s.Since s.vm h0.size := (State.WarmedH.refl s).since _
  have CH0 : CHr Z consts_1 s.vm s.heap s.vm h0 := by rw [hh]; exact CHr.refl hCH
  have hZ_0 := hZ
  show GoH p e below s (((Q_ObjectRefToStringPinLaw_make_3 Z p2 cs h0 n0, fun vm h => CHr Z consts_1 s.vm s.heap vm h) : (Option Value → Heap → List Loc → Prop) × (Vm → Heap → Prop))) xr9.cells xr9.slots s₁ (entryFrame m #[(.int p2), cv3] 2)
  refine GoH.cast (ef_ObjectRefToStringPinLaw_make_3 m p2 ci3) ?_
  show GoH p e below s _ _ _ s₁ (mkF m 0 #[vi p2, .val cv3] [])
  refine GoH.step (fun _ k => XS.iloadN X0.here hx rfl (hb hby d3_0) rfl (XS.ifYes X0.here hx rfl (pc0 := 1) (pc' := 15) rfl (hb hby d3_1) rfl ((if0 _ _).trans (feq (by decide)).2) (by decide) (by decide) (XS.iloadN X0.here hx rfl (hb hby d3_15) rfl (XS.iconst X0.here hx rfl (hb hby d3_16) (XS.icmpYes X0.here hx rfl (pc0 := 17) (pc' := 39) rfl (hb hby d3_17) rfl (feq (by decide)).2 (by decide) (by decide) (XS.iloadN X0.here hx rfl (hb hby d3_39) rfl (XS.iconst X0.here hx rfl (hb hby d3_40) (XS.icmpYes X0.here hx rfl (pc0 := 41) (pc' := 71) rfl (hb hby d3_41) rfl (feq (by decide)).2 (by decide) (by decide) k)))))))) ?_
  show GoH p e below s _ _ _ s₁ (mkF m 71 #[vi p2, .val cv3] [])
  obtain ⟨T808, h808, X808, e808, E808, A808, D808, -, st808⟩ := newO X0 hx hZ hown (tw4 hw) (tw5 hw) (tw6 hw) e0 (g := (mkF m 71 #[vi p2, .val cv3] [])) rfl (hb hby d3_71) (by decide) (by decide)
  obtain ⟨b808, g808⟩ : ∃ z, z = h0.size := ⟨_, rfl⟩
  rw [← g808] at A808 D808 st808
  have f809 : Fld Z h808 b808 xs25 "coder" "B" cv0 := D808 (Or.inr (tw34 hw)) (ty := .byte) (by decide)
  have f810 : Fld Z h808 b808 xs25 "value" "[B" .null := D808 (Or.inr (tw36 hw)) (ty := (.array .byte)) (by decide)
  refine GoH.step (fun _ k => st808 _ (XS.dup X808.here hx rfl (hb hby d3_74) rfl rfl (XS.iconst X808.here hx rfl (hb hby d3_75) k))) ?_
  show GoH p e below s _ _ _ T808 (mkF m 76 #[vi p2, .val cv3] [cv3, (.ref b808), (.ref b808)])
  obtain ⟨T811, h811, k811, X811, e811, E811, A811, st811⟩ := newP (aty := .char) X808 hx hZ (tw7 hw) e808 (g := (mkF m 76 #[vi p2, .val cv3] [cv3, (.ref b808), (.ref b808)])) rfl (hb hby d3_76) rfl (by decide) (cap := 3) (by decide) (by decide) (by decide) (by decide)
  obtain ⟨b811, g811⟩ : ∃ z, z = h808.size := ⟨_, rfl⟩
  rw [← g811] at A811 st811
  have f812 : Arv Z h811 b811 k811 .char ci3 [cv0, cv0, cv0] cv0 := (Arv.new A811 (by decide)).pad (pad_rep [] cv0 3)
  refine GoH.step (fun _ k => st811 _ (XS.dup X811.here hx rfl (hb hby d3_78) rfl rfl (XS.iconst X811.here hx rfl (hb hby d3_79) (XS.iloadN X811.here hx rfl (hb hby d3_80) rfl (XS.iconst X811.here hx rfl (hb hby d3_81) k))))) ?_
  show GoH p e below s _ _ _ T811 (mkF m 82 #[vi p2, .val cv3] [cv0, (.int p2), cv0, (.ref b811), (.ref b811), (.ref b808), (.ref b808)])
  have f813 := (Nat.le_trans (Nat.le_trans Z0 E808.1) E811.1)
  obtain ⟨_, _, ⟨T814, L814, k814, n814⟩, -, X814, ⟨Lc814, hQ814, l814, y814, z814⟩, st814⟩ := Jvm.LawKit.callS X811 hx (y := xm30) hown (mvT hZ (tw8 hw)) (mvT hZ (tw9 hw)) (mvT hZ (tw2 hw)) (mvT hZ (tw10 hw)) (by decide) (backOf (W := 5) (rm_ch l Z a0 hw [] p2 ci0 h811 n0 f813) hZ (tw10 hw) (tw2 hw) (by decide) (by decide)) (g := (mkF m 82 #[vi p2, .val cv3] [cv0, (.int p2), cv0, (.ref b811), (.ref b811), (.ref b808), (.ref b808)])) rfl (by rw [hml]; rfl) (argsL := [(.int p2), cv0]) (rest := [cv0, (.ref b811), (.ref b811), (.ref b808), (.ref b808)]) (lenOf pd_25 rfl) rfl (Nat.le_of_eq rfl) (hb hby d3_82) (fun _ _ => ⟨rfl, e811, (by decide : 2 + 0 ≤ _), (by decide : 7 + 0 ≤ _)⟩)
  dsimp only [Pt.U, Pt.locs, Pt.cells, Pt.slots] at X814 l814 y814 z814 st814 hQ814
  subst l814 y814 z814
  obtain ⟨rfl, N814q, eq814⟩ := hQ814
  have N815 := Fr.app N0 N814q
  refine GoH.step (fun _ k => st814 _ k) ?_
  show GoH p e below s _ _ _ T814 (mkF m 85 #[vi p2, .val cv3] [(.int (own_ch p2 ci0)), cv0, (.ref b811), (.ref b811), (.ref b808), (.ref b808)])
  obtain ⟨cl816, Ar816, qq816, Sz816, Ng816, Hs816, Ft816⟩ := id f812
  have in816 : ¬ (ci0 < 0 ∨ cl816.slots.size ≤ (ci0).toNatClampNeg) := (inb_of Sz816 ⟨by decide, by decide⟩)
  obtain ⟨T816, h816, X816, e816, W816, st816⟩ := stC X814 hx hZ eq814 Ar816 (j := ci0) in816 (g := (mkF m 85 #[vi p2, .val cv3] [(.int (own_ch p2 ci0)), cv0, (.ref b811), (.ref b811), (.ref b808), (.ref b808)])) rfl rfl (hb hby d3_85)
  have f817 := (Nat.le_trans Z0 E808.1)
  have g818 := Nat.le_trans f817 (Nat.le_of_eq g811.symm)
  have f819 : Arv Z h816 b811 k811 .char ci3 [(.int (nar .char (own_ch p2 ci0))), cv0, cv0] cv0 := Arv.set Ar816 qq816 Sz816 Ng816 Hs816 Ft816 (fits_nar_char _) W816 0 rfl (Nat.le_of_ble_eq_true rfl)
  have N820 := Fr.snoc X816 N815 g818
  refine GoH.step (fun _ k => st816 _ (XS.dup X816.here hx rfl (hb hby d3_86) rfl rfl (XS.iconst X816.here hx rfl (hb hby d3_87) (XS.iloadN X816.here hx rfl (hb hby d3_88) rfl (XS.iconst X816.here hx rfl (hb hby d3_89) k))))) ?_
  show GoH p e below s _ _ _ T816 (mkF m 90 #[vi p2, .val cv3] [cv1, (.int p2), cv1, (.ref b811), (.ref b811), (.ref b808), (.ref b808)])
  have f821 := (Nat.le_trans f813 (Keep.of_wr W816).1)
  obtain ⟨_, _, ⟨T822, L822, k822, n822⟩, -, X822, ⟨Lc822, hQ822, l822, y822, z822⟩, st822⟩ := Jvm.LawKit.callS X816 hx (y := xm30) hown (mvT hZ (tw8 hw)) (mvT hZ (tw9 hw)) (mvT hZ (tw2 hw)) (mvT hZ (tw10 hw)) (by decide) (backOf (W := 5) (rm_ch l Z a0 hw [] p2 ci1 h816 n0 f821) hZ (tw10 hw) (tw2 hw) (by decide) (by decide)) (g := (mkF m 90 #[vi p2, .val cv3] [cv1, (.int p2), cv1, (.ref b811), (.ref b811), (.ref b808), (.ref b808)])) rfl (by rw [hml]; rfl) (argsL := [(.int p2), cv1]) (rest := [cv1, (.ref b811), (.ref b811), (.ref b808), (.ref b808)]) (lenOf pd_25 rfl) rfl (Nat.le_of_eq rfl) (hb hby d3_90) (fun _ _ => ⟨rfl, e816, (by decide : 2 + 0 ≤ _), (by decide : 7 + 0 ≤ _)⟩)
  dsimp only [Pt.U, Pt.locs, Pt.cells, Pt.slots] at X822 l822 y822 z822 st822 hQ822
  subst l822 y822 z822
  obtain ⟨rfl, N822q, eq822⟩ := hQ822
  have N823 := Fr.app N820 N822q
  refine GoH.step (fun _ k => st822 _ k) ?_
  show GoH p e below s _ _ _ T822 (mkF m 93 #[vi p2, .val cv3] [(.int (own_ch p2 ci1)), cv1, (.ref b811), (.ref b811), (.ref b808), (.ref b808)])
  obtain ⟨cl824, Ar824, qq824, Sz824, Ng824, Hs824, Ft824⟩ := id f819
  have in824 : ¬ (ci1 < 0 ∨ cl824.slots.size ≤ (ci1).toNatClampNeg) := (inb_of Sz824 ⟨by decide, by decide⟩)
  obtain ⟨T824, h824, X824, e824, W824, st824⟩ := stC X822 hx hZ eq822 Ar824 (j := ci1) in824 (g := (mkF m 93 #[vi p2, .val cv3] [(.int (own_ch p2 ci1)), cv1, (.ref b811), (.ref b811), (.ref b808), (.ref b808)])) rfl rfl (hb hby d3_93)
  have f825 : Arv Z h824 b811 k811 .char ci3 [(.int (nar .char (own_ch p2 ci0))), (.int (nar .char (own_ch p2 ci1))), cv0] cv0 := Arv.set Ar824 qq824 Sz824 Ng824 Hs824 Ft824 (fits_nar_char _) W824 1 rfl (Nat.le_of_ble_eq_true rfl)
  have N826 := Fr.snoc X824 N823 g818
  refine GoH.step (fun _ k => st824 _ (XS.dup X824.here hx rfl (hb hby d3_94) rfl rfl (XS.iconst X824.here hx rfl (hb hby d3_95) (XS.iloadN X824.here hx rfl (hb hby d3_96) rfl (XS.iconst X824.here hx rfl (hb hby d3_97) k))))) ?_
  show GoH p e below s _ _ _ T824 (mkF m 98 #[vi p2, .val cv3] [cv2, (.int p2), cv2, (.ref b811), (.ref b811), (.ref b808), (.ref b808)])
  have f827 := (Nat.le_trans f821 (Keep.of_wr W824).1)
  obtain ⟨_, _, ⟨T828, L828, k828, n828⟩, -, X828, ⟨Lc828, hQ828, l828, y828, z828⟩, st828⟩ := Jvm.LawKit.callS X824 hx (y := xm30) hown (mvT hZ (tw8 hw)) (mvT hZ (tw9 hw)) (mvT hZ (tw2 hw)) (mvT hZ (tw10 hw)) (by decide) (backOf (W := 5) (rm_ch l Z a0 hw [] p2 ci2 h824 n0 f827) hZ (tw10 hw) (tw2 hw) (by decide) (by decide)) (g := (mkF m 98 #[vi p2, .val cv3] [cv2, (.int p2), cv2, (.ref b811), (.ref b811), (.ref b808), (.ref b808)])) rfl (by rw [hml]; rfl) (argsL := [(.int p2), cv2]) (rest := [cv2, (.ref b811), (.ref b811), (.ref b808), (.ref b808)]) (lenOf pd_25 rfl) rfl (Nat.le_of_eq rfl) (hb hby d3_98) (fun _ _ => ⟨rfl, e824, (by decide : 2 + 0 ≤ _), (by decide : 7 + 0 ≤ _)⟩)
  dsimp only [Pt.U, Pt.locs, Pt.cells, Pt.slots] at X828 l828 y828 z828 st828 hQ828
  subst l828 y828 z828
  obtain ⟨rfl, N828q, eq828⟩ := hQ828
  have N829 := Fr.app N826 N828q
  refine GoH.step (fun _ k => st828 _ k) ?_
  show GoH p e below s _ _ _ T828 (mkF m 101 #[vi p2, .val cv3] [(.int (own_ch p2 ci2)), cv2, (.ref b811), (.ref b811), (.ref b808), (.ref b808)])
  obtain ⟨cl830, Ar830, qq830, Sz830, Ng830, Hs830, Ft830⟩ := id f825
  have in830 : ¬ (ci2 < 0 ∨ cl830.slots.size ≤ (ci2).toNatClampNeg) := (inb_of Sz830 ⟨by decide, by decide⟩)
  obtain ⟨T830, h830, X830, e830, W830, st830⟩ := stC X828 hx hZ eq828 Ar830 (j := ci2) in830 (g := (mkF m 101 #[vi p2, .val cv3] [(.int (own_ch p2 ci2)), cv2, (.ref b811), (.ref b811), (.ref b808), (.ref b808)])) rfl rfl (hb hby d3_101)
  have f831 : Arv Z h830 b811 k811 .char ci3 [(.int (nar .char (own_ch p2 ci0))), (.int (nar .char (own_ch p2 ci1))), (.int (nar .char (own_ch p2 ci2)))] cv0 := Arv.set Ar830 qq830 Sz830 Ng830 Hs830 Ft830 (fits_nar_char _) W830 2 rfl (Nat.le_of_ble_eq_true rfl)
  have N832 := Fr.snoc X830 N829 g818
  refine GoH.step (fun _ k => st830 _ k) ?_
  show GoH p e below s _ _ _ T830 (mkF m 102 #[vi p2, .val cv3] [(.ref b811), (.ref b808), (.ref b808)])
  have g881 := Nat.le_trans Z0 (Nat.le_of_eq g808.symm)
  have f905 := (((((O0.ext E808).ext E811).wr W816 g818).wr W824 g818).wr W830 g818)
  have f906 := (Nat.le_trans f827 (Keep.of_wr W830).1)
  have f907 := ((((A808.ext E811).wr W816).wr W824).wr W830)
  have ne908 : b808 ≠ b811 := Nat.ne_of_lt (Nat.lt_of_lt_of_le A808.lt (Nat.le_of_eq g811.symm))
  have f909 := ((((f809.ext E811).other W816 (Or.inl ne908)).other W824 (Or.inl ne908)).other W830 (Or.inl ne908))
  have f910 := ((((f810.ext E811).other W816 (Or.inl ne908)).other W824 (Or.inl ne908)).other W830 (Or.inl ne908))
  have f912 := (own_chW (own_chW (own_chW (own_chE (own_chE CH0 E808) E811) W816 (Safe.arv hZ_0.alike f812 (by simp))) W824 (Safe.arv hZ_0.alike f819 (by simp))) W830 (Safe.arv hZ_0.alike f825 (by simp)))
  obtain ⟨_, _, ⟨T911, L911, k911, n911⟩, -, X911s, hs911, hg911, ⟨Lc911, hQ911, l911, y911, z911, ch911⟩, st911⟩ := X830.specialBackS hx (y := xm8) rfl hown (mvT hZ (tw11 hw)) (mvT hZ (tw12 hw)) (mvT hZ (tw13 hw)) (by decide) (backOfSH (W := 1) (rm_String_new_8 l Z a0 hw [] b808 b811 k811 (nar .char (own_ch p2 ci0)) (nar .char (own_ch p2 ci1)) (nar .char (own_ch p2 ci2)) cs h830 n0 f906 f831 Z_S_COMPACT_STRINGS f905 hcs as_842 as_850 as_856 f907 f909 g881 f910) hZ (tw13 hw) (tw6 hw) (by decide) (by decide) (own_EW hw) f912.1) (g := (mkF m 102 #[vi p2, .val cv3] [(.ref b811), (.ref b808), (.ref b808)])) rfl (by rw [hml]; rfl) (Steps.refl _) (a := b808) (argsL := [(.ref b811)]) (rest := [(.ref b808)]) (lenOf pd_2 rfl) rfl (Nat.le_of_eq rfl) (hb hby d3_102) (fun _ _ => ⟨rfl, e830, (by decide : 2 + 1 ≤ _), (by decide : 7 + 3 ≤ _)⟩)
  dsimp only [Pt.U, Pt.locs, Pt.cells, Pt.slots] at X911s hs911 hg911 l911 y911 z911 st911 hQ911 ch911
  subst l911 y911 z911
  have f913 := (Nat.le_trans (Nat.le_trans (Nat.le_trans (Nat.le_trans (Nat.le_trans (Nat.le_refl _) E808.1) E811.1) (Keep.of_wr W816).1) (Keep.of_wr W824).1) (Keep.of_wr W830).1)
  obtain ⟨X911, hS911, hZ911, hown911⟩ := rebS hS0 (by rw [e830]; exact f913) X911s hs911 hg911 hZ hown
  obtain ⟨uu43, uu44, rfl, N911q, K911, P911_0, P911_1, P911_2, P911_3⟩ := hQ911
  have N914 := Fr.app N832 N911q
  have f915 := f912.trans ch911
  refine GoH.step (fun _ k => st911.trans k) ?_
  show GoH p e below s _ _ _ T911 (mkF m 105 #[vi p2, .val cv3] [(.ref b808)])
  have f916 := (Nat.le_trans (Nat.le_refl _) E808.1)
  have z917 := Nat.le_trans f916 (Nat.le_of_eq g811.symm)
  have z918 := Nat.le_trans (Nat.le_refl _) (Nat.le_of_eq g808.symm)
  have f919 := (((((((Keep.refl h0 []).ext E808).ext E811).wr W816 (Or.inr z917)).wr W824 (Or.inr z917)).wr W830 (Or.inr z917)).trans K911 (allS (Or.inr z918) all0))
  have f920 := (f907.keep K911)
  have f921 := (Nat.le_trans (Nat.le_trans (Nat.le_trans (Nat.le_trans f916 E811.1) (Keep.of_wr W816).1) (Keep.of_wr W824).1) (Keep.of_wr W830).1)
  have z922 := Nat.le_trans f921 P911_2
  have ne923 : b808 ≠ uu43 := Nat.ne_of_lt (Nat.lt_of_lt_of_le f907.lt P911_2)
  exact GoH.retA X911 hS911 hx hlk Bd.returns rfl rfl (hb hby d3_105) rfl (Nat.le_refl _) ⟨b808, uu43, uu44, rfl, N914, f919, z918, f920, P911_0, P911_1, z922, P911_3, ne923⟩ (f915.trans (CHv.at X911 hZ911 (own_EW hw) f915.1)) (by decide) (by decide)

theorem ef_ObjectRefToStringPinLaw_ok_3 (m : MethodId) (x0 : Addr) (x1 : Int32) (x2 : Int32) (x3 : Int32) (x4 : Int32) (x5 : Int32) : entryFrame m #[(.ref x0), (.int x1), (.int x2), (.int x3), (.int x4), (.int x5)] 7 = mkF m 0 #[vr x0, vi x1, vi x2, vi x3, vi x4, vi x5, .unset] [] := by first | (simp [entryFrame, mkF, argsToLocals, Value.category]; done) | rfl
def Q_ObjectRefToStringPinLaw_ok_3 (Z : State) (uu45 : Addr) (n1020 : Int32) (n1021 : Int32) (n1022 : Int32) (p1 : Int32) (p2 : Int32) (uu46 : Addr) (uu47 : ClassId) (n1027 : Int32) (l1028 : List Value) (x1029 : Int32) (cs : Int32) (fv : Value) (h0 : Heap) (n0 : Nat) (v : Option Value) (h : Heap) (L : List Loc) : Prop := v = some cv1 ∧ Fr n0 L ∧ h = h0
set_option maxRecDepth 65536 in
set_option maxHeartbeats 40000000 in
theorem rm_ObjectRefToStringPinLaw_ok_3 (l : Launch) (Z : State) (a0 : Array Value) (hw : ∀ d ∈ tables_1, d.before a0 Z = true) (ws : List Jvm.Cond) (uu45 : Addr) (n1020 : Int32) (n1021 : Int32) (n1022 : Int32) (p1 : Int32) (p2 : Int32) (uu46 : Addr) (uu47 : ClassId) (n1027 : Int32) (l1028 : List Value) (x1029 : Int32) (cs : Int32) (fv : Value) (h0 : Heap) (n0 : Nat) (Z0 : n0 ≤ h0.size) (d_1023 : n1020 < n1021) (d_1024 : n1020 < n1022) (E_b267_404_1009 : Exa Z h0 uu45 xs25) (F_coder_b267_404_1009 : Fld Z h0 uu45 xs25 "coder" "B" cv0) (F_value_b267_404_1009 : Fld Z h0 uu45 xs25 "value" "[B" (.ref uu46)) (V_b297_325_341_364_384_404_1009 : Arv Z h0 uu46 uu47 .byte n1027 l1028 cv0) (pk_1030 : (l1028 : List Value).getD (n1020).toNatClampNeg cv0 = .int x1029) (Z_S_COMPACT_STRINGS : Sta Z Z.heap xs25 xs28 "Z" (.int cs)) (Z_S_SIOOBE_FORMATTER : Sta Z Z.heap xs7 xs24 xs8 fv) (O0 : Old Z n0 h0) (hcs : ¬ cs = ci0) (hfv : fv.isRef = true) (d_1031 : ¬ n1020 < ci0) (d_1032 : n1020 < n1027) (as_1035 : (nar .char (nar .char ((x1029 &&& ci255).toUInt32.toUInt16.toUInt32.toInt32))) = (own_ch p1 n1020)) :
    MetFree l xm36 (head1 (Jvm.Cond.code xm36 method_3_code 7 (some .boolean) :: ws) xr22) (fun a U => a = #[(.ref uu45), (.int n1020), (.int n1021), (.int n1022), (.int p1), (.int p2)] ∧ Z.Warmed39 U.vm ∧ U.heap = h0) (fun _ _ _ _ _ => True) (fun _ U o U' => ∃ v L, o = .returned v ∧ Q_ObjectRefToStringPinLaw_ok_3 Z uu45 n1020 n1021 n1022 p1 p2 uu46 uu47 n1027 l1028 x1029 cs fv h0 n0 v U'.heap L ∧ FrameEnd U o U' L xr22.cells xr22.slots) := by
  refine MetFree.of_bodySF (plainFor_of_name pn_2) hisR ?_
  intro p e s m args below meth c s₁ Bd hml0 hP hK
  obtain ⟨rfl, hZ, hh⟩ := hP
  have hx := Bd.exec
  have hby := Bd.bytes
  have hlk : meth.locks = false := BodyLoose.notSynchronized Bd
  have hml : c.maxLocals = 7 := hml0
  have hown : s.vm.findClass xs0 = some m.cls := findClass_of_methodNamed Bd.named
  have hnm := (name_of_methodNamed Bd.named Bd.method).1
  have X0 : Stand p l e xr22 s m #[(.ref uu45), (.int n1020), (.int n1021), (.int n1022), (.int p1), (.int p2)] below meth c s₁ [] 0 0 := Stand.of_body Bd
  have e0 : s₁.heap = h0 := by rw [← hh, Bd.state]; rfl
  have N0 := Fr.nil n0
  show Go p e below s (Q_ObjectRefToStringPinLaw_ok_3 Z uu45 n1020 n1021 n1022 p1 p2 uu46 uu47 n1027 l1028 x1029 cs fv h0 n0) xr22.cells xr22.slots s₁ (entryFrame m #[(.ref uu45), (.int n1020), (.int n1021), (.int n1022), (.int p1), (.int p2)] 7)
  refine Go.cast (ef_ObjectRefToStringPinLaw_ok_3 m uu45 n1020 n1021 n1022 p1 p2) ?_
  show Go p e below s _ _ _ s₁ (mkF m 0 #[vr uu45, vi n1020, vi n1021, vi n1022, vi p1, vi p2, .unset] [])
  refine Go.step (fun _ k => XS.iloadN X0.here hx rfl (hb hby d30_0) rfl (XS.iloadN X0.here hx rfl (hb hby d30_1) rfl (XS.icmpYes X0.here hx rfl (pc0 := 2) (pc' := 7) rfl (hb hby d30_2) rfl (tlt d_1023).1 (by decide) (by decide) (XS.iloadN X0.here hx rfl (hb hby d30_7) rfl (XS.iloadN X0.here hx rfl (hb hby d30_8) rfl (XS.icmpNo X0.here hx rfl (hb hby d30_9) rfl (tlt d_1024).2.1 (XS.iload X0.here hx rfl (hb hby d30_12) rfl (XS.iloadN X0.here hx rfl (hb hby d30_14) rfl k)))))))) ?_
  show Go p e below s _ _ _ s₁ (mkF m 15 #[vr uu45, vi n1020, vi n1021, vi n1022, vi p1, vi p2, .unset] [(.int n1020), (.int p1)])
  obtain ⟨_, _, ⟨T1025, L1025, k1025, n1025⟩, -, X1025, ⟨Lc1025, hQ1025, l1025, y1025, z1025⟩, st1025⟩ := Jvm.LawKit.callS X0 hx (y := xm30) hown (mvT hZ (tw8 hw)) (mvT hZ (tw9 hw)) (mvT hZ (tw2 hw)) (mvT hZ (tw10 hw)) (by decide) (backOf (W := 0) (rm_ch l Z a0 hw [] p1 n1020 h0 n0 Z0) hZ (tw10 hw) (tw2 hw) (by decide) (by decide)) (g := (mkF m 15 #[vr uu45, vi n1020, vi n1021, vi n1022, vi p1, vi p2, .unset] [(.int n1020), (.int p1)])) rfl (by rw [hml]; rfl) (argsL := [(.int p1), (.int n1020)]) (rest := []) (lenOf pd_25 rfl) rfl (Nat.le_of_eq rfl) (hb hby d30_15) (fun _ _ => ⟨rfl, e0, (by decide : 0 + 0 ≤ _), (by decide : 0 + 0 ≤ _)⟩)
  dsimp only [Pt.U, Pt.locs, Pt.cells, Pt.slots] at X1025 l1025 y1025 z1025 st1025 hQ1025
  subst l1025 y1025 z1025
  obtain ⟨rfl, N1025q, eq1025⟩ := hQ1025
  have N1026 := Fr.app N0 N1025q
  refine Go.step (fun _ k => st1025 _ (XS.istore X1025.here hx rfl (hb hby d30_18) rfl (l' := #[vr uu45, vi n1020, vi n1021, vi n1022, vi p1, vi p2, .val (.int (own_ch p1 n1020))]) rfl (XS.goto X1025.here hx rfl (pc0 := 20) (pc' := 47) rfl (hb hby d30_20) (by decide) (by decide) (XS.aloadN X1025.here hx rfl (hb hby d30_47) rfl rfl (XS.iloadN X1025.here hx rfl (hb hby d30_48) rfl k))))) ?_
  show Go p e below s _ _ _ T1025 (mkF m 49 #[vr uu45, vi n1020, vi n1021, vi n1022, vi p1, vi p2, .val (.int (own_ch p1 n1020))] [(.int n1020), (.ref uu45)])
  obtain ⟨cq1033, kq1033, q1033a, q1033b, q1033c⟩ := isOf hZ eq1025 E_b267_404_1009
  obtain ⟨_, _, ⟨T1033, L1033, k1033, n1033⟩, -, X1033, ⟨Lc1033, hQ1033, l1033, y1033, z1033⟩, st1033⟩ := X1025.virtualBack hx (y := xm15) (z := xm15) hown (mvT hZ (tw176 hw)) (mvT hZ (tw177 hw)) (notFace_of_selects (args := #[]) (mvT hZ (tw179 hw))) (mvT hZ (tw179 hw)) (mvT hZ (tw178 hw)) (by decide) (backOf (W := 0) (rm_String_charAt_0 l Z a0 hw [] uu45 n1020 cs uu46 uu47 n1027 l1028 fv x1029 h0 n0 Z0 E_b267_404_1009 Z_S_COMPACT_STRINGS O0 hcs F_coder_b267_404_1009 F_value_b267_404_1009 V_b297_325_341_364_384_404_1009 Z_S_SIOOBE_FORMATTER hfv pk_1030 d_1031 d_1032) hZ (tw180 hw) (tw6 hw) (by decide) (by decide)) q1033a q1033c (g := (mkF m 49 #[vr uu45, vi n1020, vi n1021, vi n1022, vi p1, vi p2, .val (.int (own_ch p1 n1020))] [(.int n1020), (.ref uu45)])) rfl (by rw [hml]; rfl) (Steps.refl _) (argsL := [(.int n1020)]) (rest := []) (lenOf pd_23 rfl) rfl (Nat.le_of_eq rfl) (hb hby d30_49) (fun _ _ => ⟨rfl, eq1025, (by decide : 0 + 0 ≤ _), (by decide : 0 + 0 ≤ _)⟩)
  dsimp only [Pt.U, Pt.locs, Pt.cells, Pt.slots] at X1033 l1033 y1033 z1033 st1033 hQ1033
  subst l1033 y1033 z1033
  obtain ⟨rfl, N1033q, eq1033⟩ := hQ1033
  have N1034 := Fr.app N1026 N1033q
  refine Go.step (fun _ k => st1033.trans (XS.iload X1033.here hx rfl (hb hby d30_52) rfl (XS.icmpNo X1033.here hx rfl (hb hby d30_54) rfl (teq as_1035).2 (XS.iconst X1033.here hx rfl (hb hby d30_57) (XS.goto X1033.here hx rfl (pc0 := 58) (pc' := 62) rfl (hb hby d30_58) (by decide) (by decide) k))))) ?_
  show Go p e below s _ _ _ T1033 (mkF m 62 #[vr uu45, vi n1020, vi n1021, vi n1022, vi p1, vi p2, .val (.int (own_ch p1 n1020))] [cv1])
  exact Go.retN X1033 hx hlk (t := .boolean) Bd.returns (by simp) (hb hby d30_62) eq1033 ⟨rfl, N1034, rfl⟩ (by decide) (by decide)

theorem ef_law (m : MethodId) (x0 : Int32) (x1 : Int32) (x2 : Int32) : entryFrame m #[(.int x0), (.int x1), (.int x2)] maxLocals = mkF m 0 #[vi x0, vi x1, vi x2, .unset, .unset, .unset, .unset, .unset, .unset, .unset] [] := by first | (simp [entryFrame, mkF, argsToLocals, Value.category, maxLocals]; done) | rfl
def Q_law (Z : State) (p1 : Int32) (p2 : Int32) (p3 : Int32) (cs : Int32) (fv : Value) (h0 : Heap) (n0 : Nat) (v : Option Value) (h : Heap) (L : List Loc) : Prop := v = some cv1 ∧ Fr n0 L
set_option maxRecDepth 65536 in
set_option maxHeartbeats 40000000 in
theorem rm_law (l : Launch) (Z : State) (a0 : Array Value) (hw : ∀ d ∈ tables_1, d.before a0 Z = true) (ws : List Jvm.Cond) (p1 : Int32) (p2 : Int32) (p3 : Int32) (cs : Int32) (fv : Value) (h0 : Heap) (n0 : Nat) (Z0 : n0 ≤ h0.size) (O0 : Old Z n0 h0) (Z_S_COMPACT_STRINGS : Sta Z Z.heap xs25 xs28 "Z" (.int cs)) (hcs : ¬ cs = ci0) (Z_S_SIOOBE_FORMATTER : Sta Z Z.heap xs7 xs24 xs8 fv) (hfv : fv.isRef = true) :
    MetFree l x (head1 (Jvm.Cond.code x code maxLocals ret :: ws) room_1) (fun a U => a = #[(.int p1), (.int p2), (.int p3)] ∧ Z.Warmed39 U.vm ∧ U.heap = h0 ∧ CHv Z consts_1 U.vm h0) (fun _ _ _ _ _ => True) (fun _ U o U' => ∃ v L, o = .returned v ∧ Q_law Z p1 p2 p3 cs fv h0 n0 v U'.heap L ∧ CHr Z consts_1 U.vm U.heap U'.vm U'.heap ∧ ReturnedEndW U o U' L room_1.cells room_1.slots) := by
  refine MetFree.of_bodySF (plainFor_of_name pn_2) hisR ?_
  intro p e s m args below meth c s₁ Bd hml0 hP hK
  obtain ⟨rfl, hZ, hh, hCH⟩ := hP
  have hx := Bd.exec
  have hby := Bd.bytes
  have hlk : meth.locks = false := BodyLoose.notSynchronized Bd
  have hml : c.maxLocals = 10 := hml0
  have hown : s.vm.findClass xs0 = some m.cls := findClass_of_methodNamed Bd.named
  have hnm := (name_of_methodNamed Bd.named Bd.method).1
  have X0 : Stand p l e room_1 (s.setVm s.vm) m #[(.int p1), (.int p2), (.int p3)] below meth c s₁ [] 0 0 := Stand.of_body Bd
  have e0 : s₁.heap = h0 := by rw [← hh, Bd.state]; rfl
  have N0 := Fr.nil n0
  have hS0 : s.Since s.vm h0.size := (State.WarmedH.refl s).since _
  have CH0 : CHr Z consts_1 s.vm s.heap s.vm h0 := by rw [hh]; exact CHr.refl hCH
  have hZ_0 := hZ
  show GoH p e below s (((Q_law Z p1 p2 p3 cs fv h0 n0, fun vm h => CHr Z consts_1 s.vm s.heap vm h) : (Option Value → Heap → List Loc → Prop) × (Vm → Heap → Prop))) room_1.cells room_1.slots s₁ (entryFrame m #[(.int p1), (.int p2), (.int p3)] maxLocals)
  refine GoH.cast (ef_law m p1 p2 p3) ?_
  show GoH p e below s _ _ _ s₁ (mkF m 0 #[vi p1, vi p2, vi p3, .unset, .unset, .unset, .unset, .unset, .unset, .unset] [])
  refine GoH.step (fun _ k => XS.iloadN X0.here hx rfl (hb hby at_0) rfl (XS.iconst X0.here hx rfl (hb hby at_1) (XS.iand X0.here hx rfl (hb hby at_2) rfl k))) ?_
  show GoH p e below s _ _ _ s₁ (mkF m 3 #[vi p1, vi p2, vi p3, .unset, .unset, .unset, .unset, .unset, .unset, .unset] [(.int (p3 &&& ci3))])
  obtain ⟨tl, etl⟩ : ∃ z, z = (p3 &&& ci3) := ⟨_, rfl⟩
  have htl : tl = ci0 ∨ tl = ci1 ∨ tl = ci2 ∨ tl = ci3 := by rw [etl]; exact own_i4 _
  rw [← etl]
  refine GoH.step (fun _ k => XS.istoreN X0.here hx rfl (hb hby at_3) rfl (l' := #[vi p1, vi p2, vi p3, vi tl, .unset, .unset, .unset, .unset, .unset, .unset]) rfl (XS.iloadN X0.here hx rfl (hb hby at_4) rfl (XS.iconst X0.here hx rfl (hb hby at_5) (XS.iushr X0.here hx rfl (hb hby at_6) rfl (XS.iconst X0.here hx rfl (hb hby at_7) (XS.iand X0.here hx rfl (hb hby at_8) rfl k)))))) ?_
  show GoH p e below s _ _ _ s₁ (mkF m 9 #[vi p1, vi p2, vi p3, vi tl, .unset, .unset, .unset, .unset, .unset, .unset] [(.int (((p3.toUInt32 >>> (ci2 &&& 31).toUInt32).toInt32) &&& ci3))])
  obtain ⟨rl, erl⟩ : ∃ z, z = (((p3.toUInt32 >>> (ci2 &&& 31).toUInt32).toInt32) &&& ci3) := ⟨_, rfl⟩
  have hrl : rl = ci0 ∨ rl = ci1 ∨ rl = ci2 ∨ rl = ci3 := by rw [erl]; exact own_i4 _
  rw [← erl]
  refine GoH.step (fun _ k => XS.istore X0.here hx rfl (hb hby at_9) rfl (l' := #[vi p1, vi p2, vi p3, vi tl, vi rl, .unset, .unset, .unset, .unset, .unset]) rfl (XS.iloadN X0.here hx rfl (hb hby at_11) rfl (XS.iloadN X0.here hx rfl (hb hby at_12) rfl k))) ?_
  show GoH p e below s _ _ _ s₁ (mkF m 13 #[vi p1, vi p2, vi p3, vi tl, vi rl, .unset, .unset, .unset, .unset, .unset] [(.int tl), (.int p1)])
  rcases htl with rfl | rfl | rfl | rfl
  · show GoH p e below s _ _ _ s₁ (mkF m 13 #[vi p1, vi p2, vi p3, .val cv0, vi rl, .unset, .unset, .unset, .unset, .unset] [cv0, (.int p1)])
    obtain ⟨_, _, ⟨T57, L57, k57, n57⟩, -, X57s, hs57, hg57, ⟨Lc57, hQ57, l57, y57, z57, ch57⟩, st57⟩ := callSS X0 hx (y := xm33) hown (mvT hZ (tw0 hw)) (mvT hZ (tw1 hw)) (mvT hZ (tw2 hw)) (mvT hZ (tw3 hw)) (by decide) (backOfSH (W := 0) (rm_ObjectRefToStringPinLaw_make_0 l Z a0 hw [] p1 h0 n0 Z0) hZ (tw3 hw) (tw2 hw) (by decide) (by decide) (own_EW hw) CH0.1) (g := (mkF m 13 #[vi p1, vi p2, vi p3, .val cv0, vi rl, .unset, .unset, .unset, .unset, .unset] [cv0, (.int p1)])) rfl (by rw [hml]; rfl) (argsL := [(.int p1), cv0]) (rest := []) (lenOf pd_3 rfl) rfl (Nat.le_of_eq rfl) (hb hby at_13) (fun _ _ => ⟨rfl, e0, (by decide : 0 + 6 ≤ _), (by decide : 0 + 12 ≤ _)⟩)
    dsimp only [Pt.U, Pt.locs, Pt.cells, Pt.slots] at X57s hs57 hg57 l57 y57 z57 st57 hQ57 ch57
    subst l57 y57 z57
    obtain ⟨X57, hS57, hZ57, hown57⟩ := rebS hS0 (by rw [e0]; exact (Nat.le_refl _)) X57s hs57 hg57 hZ hown
    obtain ⟨uu2, uu6, kb13_41_49_57, rfl, N57q, K57, P57_0, P57_1, P57_2, P57_3, P57_4⟩ := hQ57
    have N58 := Fr.app N0 N57q
    have f59 := CH0.trans ch57
    refine GoH.step (fun _ k => st57.trans (XS.astore X57.here hx rfl (hb hby at_16) rfl rfl (l' := #[vi p1, vi p2, vi p3, .val cv0, vi rl, vr uu2, .unset, .unset, .unset, .unset]) rfl (XS.iloadN X57.here hx rfl (hb hby at_18) rfl (XS.iload X57.here hx rfl (hb hby at_19) rfl k)))) ?_
    show GoH p e below s _ _ _ T57 (mkF m 21 #[vi p1, vi p2, vi p3, .val cv0, vi rl, vr uu2, .unset, .unset, .unset, .unset] [(.int rl), (.int p2)])
    rcases hrl with rfl | rfl | rfl | rfl
    · show GoH p e below s _ _ _ T57 (mkF m 21 #[vi p1, vi p2, vi p3, .val cv0, .val cv0, vr uu2, .unset, .unset, .unset, .unset] [cv0, (.int p2)])
      have f60 := (Nat.le_trans Z0 K57.1)
      obtain ⟨_, _, ⟨T61, L61, k61, n61⟩, -, X61s, hs61, hg61, ⟨Lc61, hQ61, l61, y61, z61, ch61⟩, st61⟩ := callSS X57 hx (y := xm33) hown57 (mvT hZ57 (tw0 hw)) (mvT hZ57 (tw1 hw)) (mvT hZ57 (tw2 hw)) (mvT hZ57 (tw3 hw)) (by decide) (backOfSH (W := 0) (rm_ObjectRefToStringPinLaw_make_0 l Z a0 hw [] p2 T57.heap n0 f60) hZ57 (tw3 hw) (tw2 hw) (by decide) (by decide) (own_EW hw) f59.1) (g := (mkF m 21 #[vi p1, vi p2, vi p3, .val cv0, .val cv0, vr uu2, .unset, .unset, .unset, .unset] [cv0, (.int p2)])) rfl (by rw [hml]; rfl) (argsL := [(.int p2), cv0]) (rest := []) (lenOf pd_3 rfl) rfl (Nat.le_of_eq rfl) (hb hby at_21) (fun _ _ => ⟨rfl, rfl, (by decide : 6 + 6 ≤ _), (by decide : 12 + 12 ≤ _)⟩)
      dsimp only [Pt.U, Pt.locs, Pt.cells, Pt.slots] at X61s hs61 hg61 l61 y61 z61 st61 hQ61 ch61
      subst l61 y61 z61
      obtain ⟨X61, hS61, hZ61, hown61⟩ := rebS hS57 (by exact (Nat.le_refl _)) X61s hs61 hg61 hZ57 hown57
      obtain ⟨uu3, uu17, kb13_41_49_61, rfl, N61q, K61, P61_0, P61_1, P61_2, P61_3, P61_4⟩ := hQ61
      have N62 := Fr.app N58 N61q
      have f63 := f59.trans ch61
      refine GoH.step (fun _ k => st61.trans (XS.astore X61.here hx rfl (hb hby at_24) rfl rfl (l' := #[vi p1, vi p2, vi p3, .val cv0, .val cv0, vr uu2, vr uu3, .unset, .unset, .unset]) rfl k)) ?_
      show GoH p e below s _ _ _ T61 (mkF m 26 #[vi p1, vi p2, vi p3, .val cv0, .val cv0, vr uu2, vr uu3, .unset, .unset, .unset] [])
      obtain ⟨T64, h64, X64, e64, E64, A64, D64, -, st64⟩ := newO X61 hx hZ61 hown61 (tw40 hw) (tw41 hw) (tw42 hw) rfl (g := (mkF m 26 #[vi p1, vi p2, vi p3, .val cv0, .val cv0, vr uu2, vr uu3, .unset, .unset, .unset] [])) rfl (hb hby at_26) (by decide) (by decide)
      obtain ⟨b64, g64⟩ : ∃ z, z = T61.heap.size := ⟨_, rfl⟩
      rw [← g64] at A64 D64 st64
      have f65 : Fld Z h64 b64 xs3 "type" xs21 .null := D64 (Or.inr (tw53 hw)) (ty := (.object xs25)) (by decide)
      have f66 : Fld Z h64 b64 xs3 "id" xs21 .null := D64 (Or.inr (tw55 hw)) (ty := (.object xs25)) (by decide)
      refine GoH.step (fun _ k => st64 _ (XS.dup X64.here hx rfl (hb hby at_29) rfl rfl (XS.aload X64.here hx rfl (hb hby at_30) rfl rfl (XS.aload X64.here hx rfl (hb hby at_32) rfl rfl k)))) ?_
      show GoH p e below s _ _ _ T64 (mkF m 34 #[vi p1, vi p2, vi p3, .val cv0, .val cv0, vr uu2, vr uu3, .unset, .unset, .unset] [(.ref uu3), (.ref uu2), (.ref b64), (.ref b64)])
      have f71 := (Nat.le_trans f60 K61.1)
      have g72 := Nat.le_trans f71 (Nat.le_of_eq g64.symm)
      have f83 := (Nat.le_trans f71 E64.1)
      obtain ⟨_, _, ⟨T84, L84, k84, n84⟩, -, X84, ⟨Lc84, hQ84, l84, y84, z84⟩, st84⟩ := X64.specialBack hx (y := xm31) rfl hown61 (mvT hZ61 (tw43 hw)) (mvT hZ61 (tw44 hw)) (mvT hZ61 (tw45 hw)) (by decide) (backOf (W := 1) (rm_ObjectRef_new_0 l Z a0 hw [] b64 uu2 uu3 h64 n0 f83 A64 f65 g72 f66) hZ61 (tw45 hw) (tw42 hw) (by decide) (by decide)) (g := (mkF m 34 #[vi p1, vi p2, vi p3, .val cv0, .val cv0, vr uu2, vr uu3, .unset, .unset, .unset] [(.ref uu3), (.ref uu2), (.ref b64), (.ref b64)])) rfl (by rw [hml]; rfl) (Steps.refl _) (a := b64) (argsL := [(.ref uu2), (.ref uu3)]) (rest := [(.ref b64)]) (lenOf pd_5 rfl) rfl (Nat.le_of_eq rfl) (hb hby at_34) (fun _ _ => ⟨rfl, e64, (by decide : 13 + 0 ≤ _), (by decide : 26 + 0 ≤ _)⟩)
      dsimp only [Pt.U, Pt.locs, Pt.cells, Pt.slots] at X84 l84 y84 z84 st84 hQ84
      subst l84 y84 z84
      obtain ⟨rfl, N84q, K84, P84_0, P84_1⟩ := hQ84
      have N85 := Fr.app N62 N84q
      refine GoH.step (fun _ k => st84.trans (XS.astore X84.here hx rfl (hb hby at_37) rfl rfl (l' := #[vi p1, vi p2, vi p3, .val cv0, .val cv0, vr uu2, vr uu3, vr b64, .unset, .unset]) rfl (XS.aload X84.here hx rfl (hb hby at_39) rfl rfl k))) ?_
      show GoH p e below s _ _ _ T84 (mkF m 41 #[vi p1, vi p2, vi p3, .val cv0, .val cv0, vr uu2, vr uu3, vr b64, .unset, .unset] [(.ref b64)])
      have f415 := ((((O0.keep K57 all0).keep K61 all0).ext E64).keep K84 (allS g72 all0))
      have f416 := (Nat.le_trans f83 K84.1)
      have f417 := (((P57_1.keep K61).ext E64).keep K84)
      have f418 := (P57_1.keep K61)
      have ne419 : uu2 ≠ b64 := Nat.ne_of_lt (Nat.lt_of_lt_of_le f418.lt (Nat.le_of_eq g64.symm))
      have f420 := (((P57_3.keep K61 nin0).ext E64).keep K84 (ninS ne419 nin0))
      have f421 := (P57_4.keep K61 nin0)
      have ne422 : uu6 ≠ b64 := Nat.ne_of_lt (Nat.lt_of_lt_of_le f421.lt (Nat.le_of_eq g64.symm))
      have f423 := (((P57_4.keep K61 nin0).ext E64).keep K84 (ninS ne422 nin0))
      have f424 := (((P57_2.keep K61 nin0).ext E64).keep K84 (ninS ne419 nin0))
      have f425 := ((P61_1.ext E64).keep K84)
      have ne426 : uu3 ≠ b64 := Nat.ne_of_lt (Nat.lt_of_lt_of_le P61_1.lt (Nat.le_of_eq g64.symm))
      have f427 := ((P61_3.ext E64).keep K84 (ninS ne426 nin0))
      have ne428 : uu17 ≠ b64 := Nat.ne_of_lt (Nat.lt_of_lt_of_le P61_4.lt (Nat.le_of_eq g64.symm))
      have f429 := ((P61_4.ext E64).keep K84 (ninS ne428 nin0))
      have f430 := ((P61_2.ext E64).keep K84 (ninS ne426 nin0))
      have f432 := (own_chK (own_chE f63 E64) K84 (sfS (Safe.exa hZ61.alike A64 (by decide) (by decide)) sf0))
      have f433 := (A64.keep K84)
      obtain ⟨cq431, kq431, q431a, q431b, q431c⟩ := isOf hZ61 rfl f433
      obtain ⟨_, _, ⟨T431, L431, k431, n431⟩, -, X431s, hs431, hg431, ⟨Lc431, hQ431, l431, y431, z431, ch431⟩, st431⟩ := X84.virtualBackS hx (y := xm21) (z := xm21) hown61 (mvT hZ61 (tw56 hw)) (mvT hZ61 (tw57 hw)) (notFace_of_selects (args := #[]) (mvT hZ61 (tw59 hw))) (mvT hZ61 (tw59 hw)) (mvT hZ61 (tw58 hw)) (by decide) (backOfSH (W := 0) (rm_ObjectRef_toString_0 l Z a0 hw [] b64 cs uu2 uu6 kb13_41_49_57 ci0 ([]) uu3 uu17 kb13_41_49_61 ci0 ([]) T84.heap n0 f416 Z_S_COMPACT_STRINGS f415 hcs P84_0 f417 f420 f423 f424 (by decide) (by decide) (Nat.le_of_ble_eq_true rfl) (Nat.le_of_ble_eq_true rfl) (Nat.le_of_ble_eq_true rfl) (by decide) (by decide) (Nat.le_of_ble_eq_true rfl) (Nat.le_of_ble_eq_true rfl) P84_1 f425 f427 f429 f430 (by decide) (by decide) (by decide) (Nat.le_of_ble_eq_true rfl) (Nat.le_of_ble_eq_true rfl) (Nat.le_of_ble_eq_true rfl) (by decide) (by decide) (by decide) (Nat.le_of_ble_eq_true rfl) (by decide) (Nat.le_of_ble_eq_true rfl) (Nat.le_of_ble_eq_true rfl) (Nat.le_of_ble_eq_true rfl)) hZ61 (tw60 hw) (tw42 hw) (by decide) (by decide) (own_EW hw) f432.1) q431a q431c (g := (mkF m 41 #[vi p1, vi p2, vi p3, .val cv0, .val cv0, vr uu2, vr uu3, vr b64, .unset, .unset] [(.ref b64)])) rfl (by rw [hml]; rfl) (Steps.refl _) (argsL := []) (rest := []) (lenOf pd_21 rfl) rfl (Nat.le_of_eq rfl) (hb hby at_41) (fun _ _ => ⟨rfl, rfl, (by decide : 13 + 6 ≤ _), (by decide : 26 + 48 ≤ _)⟩)
      dsimp only [Pt.U, Pt.locs, Pt.cells, Pt.slots] at X431s hs431 hg431 l431 y431 z431 st431 hQ431 ch431
      subst l431 y431 z431
      have f434 := (Nat.le_trans (Nat.le_trans (Nat.le_refl _) E64.1) K84.1)
      obtain ⟨X431, hS431, hZ431, hown431⟩ := rebS hS61 (by exact f434) X431s hs431 hg431 hZ61 hown61
      obtain ⟨uu21, uu22, uu23, rfl, N431q, K431, P431_0, P431_1, P431_2, P431_3, P431_4, P431_5, P431_6⟩ := hQ431
      have N435 := Fr.app N85 N431q
      have f436 := f432.trans ch431
      refine GoH.step (fun _ k => st431.trans k) ?_
      show GoH p e below s _ _ _ T431 (mkF m 44 #[vi p1, vi p2, vi p3, .val cv0, .val cv0, vr uu2, vr uu3, vr b64, .unset, .unset] [(.ref uu21)])
      have f437 : Arv Z T431.heap uu22 uu23 .byte ci1 [cv58] cv0 := P431_5
      refine GoH.step (fun _ k => XS.astore X431.here hx rfl (hb hby at_44) rfl rfl (l' := #[vi p1, vi p2, vi p3, .val cv0, .val cv0, vr uu2, vr uu3, vr b64, vr uu21, .unset]) rfl (XS.iloadN X431.here hx rfl (hb hby at_46) rfl (XS.iconst X431.here hx rfl (hb hby at_47) (XS.iadd X431.here hx rfl (hb hby at_48) rfl (XS.iload X431.here hx rfl (hb hby at_49) rfl (XS.iadd X431.here hx rfl (hb hby at_51) rfl (XS.istore X431.here hx rfl (hb hby at_52) rfl (l' := #[vi p1, vi p2, vi p3, .val cv0, .val cv0, vr uu2, vr uu3, vr b64, vr uu21, .val cv1]) rfl (XS.aload X431.here hx rfl (hb hby at_54) rfl rfl k)))))))) ?_
      show GoH p e below s _ _ _ T431 (mkF m 56 #[vi p1, vi p2, vi p3, .val cv0, .val cv0, vr uu2, vr uu3, vr b64, vr uu21, .val cv1] [(.ref uu21)])
      have f438 := (f415.keep K431 all0)
      have f439 := (Nat.le_trans f416 K431.1)
      obtain ⟨cq440, kq440, q440a, q440b, q440c⟩ := isOf hZ431 rfl P431_1
      obtain ⟨_, _, ⟨T440, L440, k440, n440⟩, -, X440, ⟨Lc440, hQ440, l440, y440, z440⟩, st440⟩ := X431.virtualBack hx (y := xm19) (z := xm19) hown431 (mvT hZ431 (tw172 hw)) (mvT hZ431 (tw90 hw)) (notFace_of_selects (args := #[]) (mvT hZ431 (tw92 hw))) (mvT hZ431 (tw92 hw)) (mvT hZ431 (tw91 hw)) (by decide) (backOf (W := 0) (rm_String_length_0 l Z a0 hw [] uu21 uu22 uu23 ci1 ([cv58]) cs T431.heap n0 f439 P431_3 f437 P431_1 Z_S_COMPACT_STRINGS f438 hcs P431_2) hZ431 (tw93 hw) (tw6 hw) (by decide) (by decide)) q440a q440c (g := (mkF m 56 #[vi p1, vi p2, vi p3, .val cv0, .val cv0, vr uu2, vr uu3, vr b64, vr uu21, .val cv1] [(.ref uu21)])) rfl (by rw [hml]; rfl) (Steps.refl _) (argsL := []) (rest := []) (lenOf pd_8 rfl) rfl (Nat.le_of_eq rfl) (hb hby at_56) (fun _ _ => ⟨rfl, rfl, (by decide : 19 + 0 ≤ _), (by decide : 74 + 0 ≤ _)⟩)
      dsimp only [Pt.U, Pt.locs, Pt.cells, Pt.slots] at X440 l440 y440 z440 st440 hQ440
      subst l440 y440 z440
      obtain ⟨rfl, N440q, eq440⟩ := hQ440
      have N441 := Fr.app N435 N440q
      refine GoH.step (fun _ k => st440.trans (XS.iload X440.here hx rfl (hb hby at_59) rfl (XS.icmpYes X440.here hx rfl (pc0 := 61) (pc' := 66) rfl (hb hby at_61) rfl (teq (by decide)).1 (by decide) (by decide) (XS.aload X440.here hx rfl (hb hby at_66) rfl rfl (XS.iconst X440.here hx rfl (hb hby at_68) (XS.iload X440.here hx rfl (hb hby at_69) rfl (XS.iloadN X440.here hx rfl (hb hby at_71) rfl (XS.iloadN X440.here hx rfl (hb hby at_72) rfl (XS.iloadN X440.here hx rfl (hb hby at_73) rfl k))))))))) ?_
      show GoH p e below s _ _ _ T440 (mkF m 74 #[vi p1, vi p2, vi p3, .val cv0, .val cv0, vr uu2, vr uu3, vr b64, vr uu21, .val cv1] [(.int p2), (.int p1), cv0, cv1, cv0, (.ref uu21)])
      obtain ⟨_, _, ⟨T476, L476, k476, n476⟩, -, X476, ⟨Lc476, hQ476, l476, y476, z476⟩, st476⟩ := Jvm.LawKit.callS X440 hx (y := xm36) hown431 (mvT hZ431 (tw173 hw)) (mvT hZ431 (tw174 hw)) (mvT hZ431 (tw2 hw)) (mvT hZ431 (tw175 hw)) (by decide) (backOf (W := 0) (rm_ObjectRefToStringPinLaw_ok_0 l Z a0 hw [] uu21 ci0 ci1 ci0 p1 p2 cs uu22 uu23 ci1 ([cv58]) fv ci58 T431.heap n0 f439 (by decide) (by decide) rfl P431_1 Z_S_COMPACT_STRINGS f438 hcs P431_2 P431_3 f437 Z_S_SIOOBE_FORMATTER hfv rfl (by decide) (by decide) (by decide)) hZ431 (tw175 hw) (tw2 hw) (by decide) (by decide)) (g := (mkF m 74 #[vi p1, vi p2, vi p3, .val cv0, .val cv0, vr uu2, vr uu3, vr b64, vr uu21, .val cv1] [(.int p2), (.int p1), cv0, cv1, cv0, (.ref uu21)])) rfl (by rw [hml]; rfl) (argsL := [(.ref uu21), cv0, cv1, cv0, (.int p1), (.int p2)]) (rest := []) (lenOf pd_24 rfl) rfl (Nat.le_of_eq rfl) (hb hby at_74) (fun _ _ => ⟨rfl, eq440, (by decide : 19 + 0 ≤ _), (by decide : 74 + 0 ≤ _)⟩)
      dsimp only [Pt.U, Pt.locs, Pt.cells, Pt.slots] at X476 l476 y476 z476 st476 hQ476
      subst l476 y476 z476
      obtain ⟨rfl, N476q, eq476⟩ := hQ476
      have N477 := Fr.app N441 N476q
      refine GoH.step (fun _ k => st476 _ (XS.ifNo X476.here hx rfl (hb hby at_77) rfl ((if0 _ _).trans (feq (by decide)).1) (XS.aload X476.here hx rfl (hb hby at_80) rfl rfl (XS.iconst X476.here hx rfl (hb hby at_82) (XS.iload X476.here hx rfl (hb hby at_83) rfl (XS.iloadN X476.here hx rfl (hb hby at_85) rfl (XS.iloadN X476.here hx rfl (hb hby at_86) rfl (XS.iloadN X476.here hx rfl (hb hby at_87) rfl k)))))))) ?_
      show GoH p e below s _ _ _ T476 (mkF m 88 #[vi p1, vi p2, vi p3, .val cv0, .val cv0, vr uu2, vr uu3, vr b64, vr uu21, .val cv1] [(.int p2), (.int p1), cv0, cv1, cv1, (.ref uu21)])
      obtain ⟨_, _, ⟨T482, L482, k482, n482⟩, -, X482, ⟨Lc482, hQ482, l482, y482, z482⟩, st482⟩ := Jvm.LawKit.callS X476 hx (y := xm36) hown431 (mvT hZ431 (tw173 hw)) (mvT hZ431 (tw174 hw)) (mvT hZ431 (tw2 hw)) (mvT hZ431 (tw175 hw)) (by decide) (backOf (W := 0) (rm_ObjectRefToStringPinLaw_ok_1 l Z a0 hw [] uu21 ci1 ci1 ci0 p1 p2 T431.heap n0 f439 (by decide)) hZ431 (tw175 hw) (tw2 hw) (by decide) (by decide)) (g := (mkF m 88 #[vi p1, vi p2, vi p3, .val cv0, .val cv0, vr uu2, vr uu3, vr b64, vr uu21, .val cv1] [(.int p2), (.int p1), cv0, cv1, cv1, (.ref uu21)])) rfl (by rw [hml]; rfl) (argsL := [(.ref uu21), cv1, cv1, cv0, (.int p1), (.int p2)]) (rest := []) (lenOf pd_24 rfl) rfl (Nat.le_of_eq rfl) (hb hby at_88) (fun _ _ => ⟨rfl, eq476, (by decide : 19 + 0 ≤ _), (by decide : 74 + 0 ≤ _)⟩)
      dsimp only [Pt.U, Pt.locs, Pt.cells, Pt.slots] at X482 l482 y482 z482 st482 hQ482
      subst l482 y482 z482
      obtain ⟨rfl, N482q, eq482⟩ := hQ482
      have N483 := Fr.app N477 N482q
      refine GoH.step (fun _ k => st482 _ (XS.ifNo X482.here hx rfl (hb hby at_91) rfl ((if0 _ _).trans (feq (by decide)).1) (XS.aload X482.here hx rfl (hb hby at_94) rfl rfl (XS.iconst X482.here hx rfl (hb hby at_96) (XS.iload X482.here hx rfl (hb hby at_97) rfl (XS.iloadN X482.here hx rfl (hb hby at_99) rfl (XS.iloadN X482.here hx rfl (hb hby at_100) rfl (XS.iloadN X482.here hx rfl (hb hby at_101) rfl k)))))))) ?_
      show GoH p e below s _ _ _ T482 (mkF m 102 #[vi p1, vi p2, vi p3, .val cv0, .val cv0, vr uu2, vr uu3, vr b64, vr uu21, .val cv1] [(.int p2), (.int p1), cv0, cv1, cv2, (.ref uu21)])
      obtain ⟨_, _, ⟨T484, L484, k484, n484⟩, -, X484, ⟨Lc484, hQ484, l484, y484, z484⟩, st484⟩ := Jvm.LawKit.callS X482 hx (y := xm36) hown431 (mvT hZ431 (tw173 hw)) (mvT hZ431 (tw174 hw)) (mvT hZ431 (tw2 hw)) (mvT hZ431 (tw175 hw)) (by decide) (backOf (W := 0) (rm_ObjectRefToStringPinLaw_ok_1 l Z a0 hw [] uu21 ci2 ci1 ci0 p1 p2 T431.heap n0 f439 (by decide)) hZ431 (tw175 hw) (tw2 hw) (by decide) (by decide)) (g := (mkF m 102 #[vi p1, vi p2, vi p3, .val cv0, .val cv0, vr uu2, vr uu3, vr b64, vr uu21, .val cv1] [(.int p2), (.int p1), cv0, cv1, cv2, (.ref uu21)])) rfl (by rw [hml]; rfl) (argsL := [(.ref uu21), cv2, cv1, cv0, (.int p1), (.int p2)]) (rest := []) (lenOf pd_24 rfl) rfl (Nat.le_of_eq rfl) (hb hby at_102) (fun _ _ => ⟨rfl, eq482, (by decide : 19 + 0 ≤ _), (by decide : 74 + 0 ≤ _)⟩)
      dsimp only [Pt.U, Pt.locs, Pt.cells, Pt.slots] at X484 l484 y484 z484 st484 hQ484
      subst l484 y484 z484
      obtain ⟨rfl, N484q, eq484⟩ := hQ484
      have N485 := Fr.app N483 N484q
      refine GoH.step (fun _ k => st484 _ (XS.ifNo X484.here hx rfl (hb hby at_105) rfl ((if0 _ _).trans (feq (by decide)).1) (XS.aload X484.here hx rfl (hb hby at_108) rfl rfl (XS.iconst X484.here hx rfl (hb hby at_110) (XS.iload X484.here hx rfl (hb hby at_111) rfl (XS.iloadN X484.here hx rfl (hb hby at_113) rfl (XS.iloadN X484.here hx rfl (hb hby at_114) rfl (XS.iloadN X484.here hx rfl (hb hby at_115) rfl k)))))))) ?_
      show GoH p e below s _ _ _ T484 (mkF m 116 #[vi p1, vi p2, vi p3, .val cv0, .val cv0, vr uu2, vr uu3, vr b64, vr uu21, .val cv1] [(.int p2), (.int p1), cv0, cv1, cv3, (.ref uu21)])
      obtain ⟨_, _, ⟨T486, L486, k486, n486⟩, -, X486, ⟨Lc486, hQ486, l486, y486, z486⟩, st486⟩ := Jvm.LawKit.callS X484 hx (y := xm36) hown431 (mvT hZ431 (tw173 hw)) (mvT hZ431 (tw174 hw)) (mvT hZ431 (tw2 hw)) (mvT hZ431 (tw175 hw)) (by decide) (backOf (W := 0) (rm_ObjectRefToStringPinLaw_ok_1 l Z a0 hw [] uu21 ci3 ci1 ci0 p1 p2 T431.heap n0 f439 (by decide)) hZ431 (tw175 hw) (tw2 hw) (by decide) (by decide)) (g := (mkF m 116 #[vi p1, vi p2, vi p3, .val cv0, .val cv0, vr uu2, vr uu3, vr b64, vr uu21, .val cv1] [(.int p2), (.int p1), cv0, cv1, cv3, (.ref uu21)])) rfl (by rw [hml]; rfl) (argsL := [(.ref uu21), cv3, cv1, cv0, (.int p1), (.int p2)]) (rest := []) (lenOf pd_24 rfl) rfl (Nat.le_of_eq rfl) (hb hby at_116) (fun _ _ => ⟨rfl, eq484, (by decide : 19 + 0 ≤ _), (by decide : 74 + 0 ≤ _)⟩)
      dsimp only [Pt.U, Pt.locs, Pt.cells, Pt.slots] at X486 l486 y486 z486 st486 hQ486
      subst l486 y486 z486
      obtain ⟨rfl, N486q, eq486⟩ := hQ486
      have N487 := Fr.app N485 N486q
      refine GoH.step (fun _ k => st486 _ (XS.ifNo X486.here hx rfl (hb hby at_119) rfl ((if0 _ _).trans (feq (by decide)).1) (XS.aload X486.here hx rfl (hb hby at_122) rfl rfl (XS.iconst X486.here hx rfl (hb hby at_124) (XS.iload X486.here hx rfl (hb hby at_125) rfl (XS.iloadN X486.here hx rfl (hb hby at_127) rfl (XS.iloadN X486.here hx rfl (hb hby at_128) rfl (XS.iloadN X486.here hx rfl (hb hby at_129) rfl k)))))))) ?_
      show GoH p e below s _ _ _ T486 (mkF m 130 #[vi p1, vi p2, vi p3, .val cv0, .val cv0, vr uu2, vr uu3, vr b64, vr uu21, .val cv1] [(.int p2), (.int p1), cv0, cv1, cv4, (.ref uu21)])
      obtain ⟨_, _, ⟨T488, L488, k488, n488⟩, -, X488, ⟨Lc488, hQ488, l488, y488, z488⟩, st488⟩ := Jvm.LawKit.callS X486 hx (y := xm36) hown431 (mvT hZ431 (tw173 hw)) (mvT hZ431 (tw174 hw)) (mvT hZ431 (tw2 hw)) (mvT hZ431 (tw175 hw)) (by decide) (backOf (W := 0) (rm_ObjectRefToStringPinLaw_ok_1 l Z a0 hw [] uu21 ci4 ci1 ci0 p1 p2 T431.heap n0 f439 (by decide)) hZ431 (tw175 hw) (tw2 hw) (by decide) (by decide)) (g := (mkF m 130 #[vi p1, vi p2, vi p3, .val cv0, .val cv0, vr uu2, vr uu3, vr b64, vr uu21, .val cv1] [(.int p2), (.int p1), cv0, cv1, cv4, (.ref uu21)])) rfl (by rw [hml]; rfl) (argsL := [(.ref uu21), cv4, cv1, cv0, (.int p1), (.int p2)]) (rest := []) (lenOf pd_24 rfl) rfl (Nat.le_of_eq rfl) (hb hby at_130) (fun _ _ => ⟨rfl, eq486, (by decide : 19 + 0 ≤ _), (by decide : 74 + 0 ≤ _)⟩)
      dsimp only [Pt.U, Pt.locs, Pt.cells, Pt.slots] at X488 l488 y488 z488 st488 hQ488
      subst l488 y488 z488
      obtain ⟨rfl, N488q, eq488⟩ := hQ488
      have N489 := Fr.app N487 N488q
      refine GoH.step (fun _ k => st488 _ (XS.ifNo X488.here hx rfl (hb hby at_133) rfl ((if0 _ _).trans (feq (by decide)).1) (XS.aload X488.here hx rfl (hb hby at_136) rfl rfl (XS.iconst X488.here hx rfl (hb hby at_138) (XS.iload X488.here hx rfl (hb hby at_139) rfl (XS.iloadN X488.here hx rfl (hb hby at_141) rfl (XS.iloadN X488.here hx rfl (hb hby at_142) rfl (XS.iloadN X488.here hx rfl (hb hby at_143) rfl k)))))))) ?_
      show GoH p e below s _ _ _ T488 (mkF m 144 #[vi p1, vi p2, vi p3, .val cv0, .val cv0, vr uu2, vr uu3, vr b64, vr uu21, .val cv1] [(.int p2), (.int p1), cv0, cv1, cv5, (.ref uu21)])
      obtain ⟨_, _, ⟨T490, L490, k490, n490⟩, -, X490, ⟨Lc490, hQ490, l490, y490, z490⟩, st490⟩ := Jvm.LawKit.callS X488 hx (y := xm36) hown431 (mvT hZ431 (tw173 hw)) (mvT hZ431 (tw174 hw)) (mvT hZ431 (tw2 hw)) (mvT hZ431 (tw175 hw)) (by decide) (backOf (W := 0) (rm_ObjectRefToStringPinLaw_ok_1 l Z a0 hw [] uu21 ci5 ci1 ci0 p1 p2 T431.heap n0 f439 (by decide)) hZ431 (tw175 hw) (tw2 hw) (by decide) (by decide)) (g := (mkF m 144 #[vi p1, vi p2, vi p3, .val cv0, .val cv0, vr uu2, vr uu3, vr b64, vr uu21, .val cv1] [(.int p2), (.int p1), cv0, cv1, cv5, (.ref uu21)])) rfl (by rw [hml]; rfl) (argsL := [(.ref uu21), cv5, cv1, cv0, (.int p1), (.int p2)]) (rest := []) (lenOf pd_24 rfl) rfl (Nat.le_of_eq rfl) (hb hby at_144) (fun _ _ => ⟨rfl, eq488, (by decide : 19 + 0 ≤ _), (by decide : 74 + 0 ≤ _)⟩)
      dsimp only [Pt.U, Pt.locs, Pt.cells, Pt.slots] at X490 l490 y490 z490 st490 hQ490
      subst l490 y490 z490
      obtain ⟨rfl, N490q, eq490⟩ := hQ490
      have N491 := Fr.app N489 N490q
      refine GoH.step (fun _ k => st490 _ (XS.ifNo X490.here hx rfl (hb hby at_147) rfl ((if0 _ _).trans (feq (by decide)).1) (XS.aload X490.here hx rfl (hb hby at_150) rfl rfl (XS.bipush X490.here hx rfl (hb hby at_152) (XS.iload X490.here hx rfl (hb hby at_154) rfl (XS.iloadN X490.here hx rfl (hb hby at_156) rfl (XS.iloadN X490.here hx rfl (hb hby at_157) rfl (XS.iloadN X490.here hx rfl (hb hby at_158) rfl k)))))))) ?_
      show GoH p e below s _ _ _ T490 (mkF m 159 #[vi p1, vi p2, vi p3, .val cv0, .val cv0, vr uu2, vr uu3, vr b64, vr uu21, .val cv1] [(.int p2), (.int p1), cv0, cv1, cv6, (.ref uu21)])
      obtain ⟨_, _, ⟨T492, L492, k492, n492⟩, -, X492, ⟨Lc492, hQ492, l492, y492, z492⟩, st492⟩ := Jvm.LawKit.callS X490 hx (y := xm36) hown431 (mvT hZ431 (tw173 hw)) (mvT hZ431 (tw174 hw)) (mvT hZ431 (tw2 hw)) (mvT hZ431 (tw175 hw)) (by decide) (backOf (W := 0) (rm_ObjectRefToStringPinLaw_ok_1 l Z a0 hw [] uu21 ci6 ci1 ci0 p1 p2 T431.heap n0 f439 (by decide)) hZ431 (tw175 hw) (tw2 hw) (by decide) (by decide)) (g := (mkF m 159 #[vi p1, vi p2, vi p3, .val cv0, .val cv0, vr uu2, vr uu3, vr b64, vr uu21, .val cv1] [(.int p2), (.int p1), cv0, cv1, cv6, (.ref uu21)])) rfl (by rw [hml]; rfl) (argsL := [(.ref uu21), cv6, cv1, cv0, (.int p1), (.int p2)]) (rest := []) (lenOf pd_24 rfl) rfl (Nat.le_of_eq rfl) (hb hby at_159) (fun _ _ => ⟨rfl, eq490, (by decide : 19 + 0 ≤ _), (by decide : 74 + 0 ≤ _)⟩)
      dsimp only [Pt.U, Pt.locs, Pt.cells, Pt.slots] at X492 l492 y492 z492 st492 hQ492
      subst l492 y492 z492
      obtain ⟨rfl, N492q, eq492⟩ := hQ492
      have N493 := Fr.app N491 N492q
      refine GoH.step (fun _ k => st492 _ (XS.ifNo X492.here hx rfl (hb hby at_162) rfl ((if0 _ _).trans (feq (by decide)).1) (XS.iconst X492.here hx rfl (hb hby at_165) (XS.goto X492.here hx rfl (pc0 := 166) (pc' := 170) rfl (hb hby at_166) (by decide) (by decide) k)))) ?_
      show GoH p e below s _ _ _ T492 (mkF m 170 #[vi p1, vi p2, vi p3, .val cv0, .val cv0, vr uu2, vr uu3, vr b64, vr uu21, .val cv1] [cv1])
      exact GoH.retN X492 hS431 hx hlk (t := .boolean) Bd.returns (by simp) (hb hby at_170) eq492 (Nat.le_refl _) ⟨rfl, N493⟩ (f436.trans (CHv.at X492 hZ431 (own_EW hw) f436.1)) (by decide) (by decide)
    · show GoH p e below s _ _ _ T57 (mkF m 21 #[vi p1, vi p2, vi p3, .val cv0, .val cv1, vr uu2, .unset, .unset, .unset, .unset] [cv1, (.int p2)])
      have f581 := (O0.keep K57 all0)
      have f582 := (Nat.le_trans Z0 K57.1)
      obtain ⟨_, _, ⟨T583, L583, k583, n583⟩, -, X583s, hs583, hg583, ⟨Lc583, hQ583, l583, y583, z583, ch583⟩, st583⟩ := callSS X57 hx (y := xm33) hown57 (mvT hZ57 (tw0 hw)) (mvT hZ57 (tw1 hw)) (mvT hZ57 (tw2 hw)) (mvT hZ57 (tw3 hw)) (by decide) (backOfSH (W := 0) (rm_ObjectRefToStringPinLaw_make_1 l Z a0 hw [] p2 cs T57.heap n0 f582 Z_S_COMPACT_STRINGS f581 hcs (own_c2 p2 ci0)) hZ57 (tw3 hw) (tw2 hw) (by decide) (by decide) (own_EW hw) f59.1) (g := (mkF m 21 #[vi p1, vi p2, vi p3, .val cv0, .val cv1, vr uu2, .unset, .unset, .unset, .unset] [cv1, (.int p2)])) rfl (by rw [hml]; rfl) (argsL := [(.int p2), cv1]) (rest := []) (lenOf pd_3 rfl) rfl (Nat.le_of_eq rfl) (hb hby at_21) (fun _ _ => ⟨rfl, rfl, (by decide : 6 + 3 ≤ _), (by decide : 12 + 6 ≤ _)⟩)
      dsimp only [Pt.U, Pt.locs, Pt.cells, Pt.slots] at X583s hs583 hg583 l583 y583 z583 st583 hQ583 ch583
      subst l583 y583 z583
      obtain ⟨X583, hS583, hZ583, hown583⟩ := rebS hS57 (by exact (Nat.le_refl _)) X583s hs583 hg583 hZ57 hown57
      obtain ⟨uu48, uu49, uu50, rfl, N583q, K583, P583_0, P583_1, P583_2, P583_3, P583_4, P583_5, P583_6⟩ := hQ583
      have N584 := Fr.app N58 N583q
      have f585 := f59.trans ch583
      refine GoH.step (fun _ k => st583.trans (XS.astore X583.here hx rfl (hb hby at_24) rfl rfl (l' := #[vi p1, vi p2, vi p3, .val cv0, .val cv1, vr uu2, vr uu48, .unset, .unset, .unset]) rfl k)) ?_
      show GoH p e below s _ _ _ T583 (mkF m 26 #[vi p1, vi p2, vi p3, .val cv0, .val cv1, vr uu2, vr uu48, .unset, .unset, .unset] [])
      obtain ⟨T586, h586, X586, e586, E586, A586, D586, -, st586⟩ := newO X583 hx hZ583 hown583 (tw40 hw) (tw41 hw) (tw42 hw) rfl (g := (mkF m 26 #[vi p1, vi p2, vi p3, .val cv0, .val cv1, vr uu2, vr uu48, .unset, .unset, .unset] [])) rfl (hb hby at_26) (by decide) (by decide)
      obtain ⟨b586, g586⟩ : ∃ z, z = T583.heap.size := ⟨_, rfl⟩
      rw [← g586] at A586 D586 st586
      have f587 : Fld Z h586 b586 xs3 "type" xs21 .null := D586 (Or.inr (tw53 hw)) (ty := (.object xs25)) (by decide)
      have f588 : Fld Z h586 b586 xs3 "id" xs21 .null := D586 (Or.inr (tw55 hw)) (ty := (.object xs25)) (by decide)
      refine GoH.step (fun _ k => st586 _ (XS.dup X586.here hx rfl (hb hby at_29) rfl rfl (XS.aload X586.here hx rfl (hb hby at_30) rfl rfl (XS.aload X586.here hx rfl (hb hby at_32) rfl rfl k)))) ?_
      show GoH p e below s _ _ _ T586 (mkF m 34 #[vi p1, vi p2, vi p3, .val cv0, .val cv1, vr uu2, vr uu48, .unset, .unset, .unset] [(.ref uu48), (.ref uu2), (.ref b586), (.ref b586)])
      have f589 := (Nat.le_trans (Nat.le_trans f582 K583.1) E586.1)
      have f590 := (Nat.le_trans f582 K583.1)
      have g591 := Nat.le_trans f590 (Nat.le_of_eq g586.symm)
      obtain ⟨_, _, ⟨T592, L592, k592, n592⟩, -, X592, ⟨Lc592, hQ592, l592, y592, z592⟩, st592⟩ := X586.specialBack hx (y := xm31) rfl hown583 (mvT hZ583 (tw43 hw)) (mvT hZ583 (tw44 hw)) (mvT hZ583 (tw45 hw)) (by decide) (backOf (W := 1) (rm_ObjectRef_new_0 l Z a0 hw [] b586 uu2 uu48 h586 n0 f589 A586 f587 g591 f588) hZ583 (tw45 hw) (tw42 hw) (by decide) (by decide)) (g := (mkF m 34 #[vi p1, vi p2, vi p3, .val cv0, .val cv1, vr uu2, vr uu48, .unset, .unset, .unset] [(.ref uu48), (.ref uu2), (.ref b586), (.ref b586)])) rfl (by rw [hml]; rfl) (Steps.refl _) (a := b586) (argsL := [(.ref uu2), (.ref uu48)]) (rest := [(.ref b586)]) (lenOf pd_5 rfl) rfl (Nat.le_of_eq rfl) (hb hby at_34) (fun _ _ => ⟨rfl, e586, (by decide : 10 + 0 ≤ _), (by decide : 20 + 0 ≤ _)⟩)
      dsimp only [Pt.U, Pt.locs, Pt.cells, Pt.slots] at X592 l592 y592 z592 st592 hQ592
      subst l592 y592 z592
      obtain ⟨rfl, N592q, K592, P592_0, P592_1⟩ := hQ592
      have N593 := Fr.app N584 N592q
      refine GoH.step (fun _ k => st592.trans (XS.astore X592.here hx rfl (hb hby at_37) rfl rfl (l' := #[vi p1, vi p2, vi p3, .val cv0, .val cv1, vr uu2, vr uu48, vr b586, .unset, .unset]) rfl (XS.aload X592.here hx rfl (hb hby at_39) rfl rfl k))) ?_
      show GoH p e below s _ _ _ T592 (mkF m 41 #[vi p1, vi p2, vi p3, .val cv0, .val cv1, vr uu2, vr uu48, vr b586, .unset, .unset] [(.ref b586)])
      have f594 := (((f581.keep K583 all0).ext E586).keep K592 (allS g591 all0))
      have f595 := (Nat.le_trans f589 K592.1)
      have f596 := (((P57_1.keep K583).ext E586).keep K592)
      have f597 := (P57_1.keep K583)
      have ne598 : uu2 ≠ b586 := Nat.ne_of_lt (Nat.lt_of_lt_of_le f597.lt (Nat.le_of_eq g586.symm))
      have f599 := (((P57_3.keep K583 nin0).ext E586).keep K592 (ninS ne598 nin0))
      have f600 := (P57_4.keep K583 nin0)
      have ne601 : uu6 ≠ b586 := Nat.ne_of_lt (Nat.lt_of_lt_of_le f600.lt (Nat.le_of_eq g586.symm))
      have f602 := (((P57_4.keep K583 nin0).ext E586).keep K592 (ninS ne601 nin0))
      have f603 := (((P57_2.keep K583 nin0).ext E586).keep K592 (ninS ne598 nin0))
      have f604 := ((P583_1.ext E586).keep K592)
      have ne605 : uu48 ≠ b586 := Nat.ne_of_lt (Nat.lt_of_lt_of_le P583_1.lt (Nat.le_of_eq g586.symm))
      have f606 := ((P583_3.ext E586).keep K592 (ninS ne605 nin0))
      have ne607 : uu49 ≠ b586 := Nat.ne_of_lt (Nat.lt_of_lt_of_le P583_5.lt (Nat.le_of_eq g586.symm))
      have f608 := ((P583_5.ext E586).keep K592 (ninS ne607 nin0))
      have f609 := ((P583_2.ext E586).keep K592 (ninS ne605 nin0))
      have f611 := (own_chK (own_chE f585 E586) K592 (sfS (Safe.exa hZ583.alike A586 (by decide) (by decide)) sf0))
      have f612 := (A586.keep K592)
      obtain ⟨cq610, kq610, q610a, q610b, q610c⟩ := isOf hZ583 rfl f612
      obtain ⟨_, _, ⟨T610, L610, k610, n610⟩, -, X610s, hs610, hg610, ⟨Lc610, hQ610, l610, y610, z610, ch610⟩, st610⟩ := X592.virtualBackS hx (y := xm21) (z := xm21) hown583 (mvT hZ583 (tw56 hw)) (mvT hZ583 (tw57 hw)) (notFace_of_selects (args := #[]) (mvT hZ583 (tw59 hw))) (mvT hZ583 (tw59 hw)) (mvT hZ583 (tw58 hw)) (by decide) (backOfSH (W := 0) (rm_ObjectRef_toString_0 l Z a0 hw [] b586 cs uu2 uu6 kb13_41_49_57 ci0 ([]) uu48 uu49 uu50 ci1 ([(.int (nar .byte ((nar .char (own_ch p2 ci0)).toInt8.toInt32)))]) T592.heap n0 f595 Z_S_COMPACT_STRINGS f594 hcs P592_0 f596 f599 f602 f603 (by decide) (by decide) (Nat.le_of_ble_eq_true rfl) (Nat.le_of_ble_eq_true rfl) (Nat.le_of_ble_eq_true rfl) (by decide) (by decide) (Nat.le_of_ble_eq_true rfl) (Nat.le_of_ble_eq_true rfl) P592_1 f604 f606 f608 f609 (by decide) (by decide) (by decide) (Nat.le_of_ble_eq_true rfl) (Nat.le_of_ble_eq_true rfl) (Nat.le_of_ble_eq_true rfl) (by decide) (by decide) (by decide) (Nat.le_of_ble_eq_true rfl) (by decide) (Nat.le_of_ble_eq_true rfl) (Nat.le_of_ble_eq_true rfl) (Nat.le_of_ble_eq_true rfl)) hZ583 (tw60 hw) (tw42 hw) (by decide) (by decide) (own_EW hw) f611.1) q610a q610c (g := (mkF m 41 #[vi p1, vi p2, vi p3, .val cv0, .val cv1, vr uu2, vr uu48, vr b586, .unset, .unset] [(.ref b586)])) rfl (by rw [hml]; rfl) (Steps.refl _) (argsL := []) (rest := []) (lenOf pd_21 rfl) rfl (Nat.le_of_eq rfl) (hb hby at_41) (fun _ _ => ⟨rfl, rfl, (by decide : 10 + 6 ≤ _), (by decide : 20 + 48 ≤ _)⟩)
      dsimp only [Pt.U, Pt.locs, Pt.cells, Pt.slots] at X610s hs610 hg610 l610 y610 z610 st610 hQ610 ch610
      subst l610 y610 z610
      have f613 := (Nat.le_trans (Nat.le_trans (Nat.le_refl _) E586.1) K592.1)
      obtain ⟨X610, hS610, hZ610, hown610⟩ := rebS hS583 (by exact f613) X610s hs610 hg610 hZ583 hown583
      obtain ⟨uu30, uu31, uu32, rfl, N610q, K610, P610_0, P610_1, P610_2, P610_3, P610_4, P610_5, P610_6⟩ := hQ610
      have N614 := Fr.app N593 N610q
      have f615 := f611.trans ch610
      refine GoH.step (fun _ k => st610.trans k) ?_
      show GoH p e below s _ _ _ T610 (mkF m 44 #[vi p1, vi p2, vi p3, .val cv0, .val cv1, vr uu2, vr uu48, vr b586, .unset, .unset] [(.ref uu30)])
      have f616 : Arv Z T610.heap uu31 uu32 .byte ci2 [cv58, (.int (nar .byte ((nar .char (own_ch p2 ci0)).toInt8.toInt32)))] cv0 := P610_5
      refine GoH.step (fun _ k => XS.astore X610.here hx rfl (hb hby at_44) rfl rfl (l' := #[vi p1, vi p2, vi p3, .val cv0, .val cv1, vr uu2, vr uu48, vr b586, vr uu30, .unset]) rfl (XS.iloadN X610.here hx rfl (hb hby at_46) rfl (XS.iconst X610.here hx rfl (hb hby at_47) (XS.iadd X610.here hx rfl (hb hby at_48) rfl (XS.iload X610.here hx rfl (hb hby at_49) rfl (XS.iadd X610.here hx rfl (hb hby at_51) rfl (XS.istore X610.here hx rfl (hb hby at_52) rfl (l' := #[vi p1, vi p2, vi p3, .val cv0, .val cv1, vr uu2, vr uu48, vr b586, vr uu30, .val cv2]) rfl (XS.aload X610.here hx rfl (hb hby at_54) rfl rfl k)))))))) ?_
      show GoH p e below s _ _ _ T610 (mkF m 56 #[vi p1, vi p2, vi p3, .val cv0, .val cv1, vr uu2, vr uu48, vr b586, vr uu30, .val cv2] [(.ref uu30)])
      have f617 := (f594.keep K610 all0)
      have f618 := (Nat.le_trans f595 K610.1)
      obtain ⟨cq619, kq619, q619a, q619b, q619c⟩ := isOf hZ610 rfl P610_1
      obtain ⟨_, _, ⟨T619, L619, k619, n619⟩, -, X619, ⟨Lc619, hQ619, l619, y619, z619⟩, st619⟩ := X610.virtualBack hx (y := xm19) (z := xm19) hown610 (mvT hZ610 (tw172 hw)) (mvT hZ610 (tw90 hw)) (notFace_of_selects (args := #[]) (mvT hZ610 (tw92 hw))) (mvT hZ610 (tw92 hw)) (mvT hZ610 (tw91 hw)) (by decide) (backOf (W := 0) (rm_String_length_0 l Z a0 hw [] uu30 uu31 uu32 ci2 ([cv58, (.int (nar .byte ((nar .char (own_ch p2 ci0)).toInt8.toInt32)))]) cs T610.heap n0 f618 P610_3 f616 P610_1 Z_S_COMPACT_STRINGS f617 hcs P610_2) hZ610 (tw93 hw) (tw6 hw) (by decide) (by decide)) q619a q619c (g := (mkF m 56 #[vi p1, vi p2, vi p3, .val cv0, .val cv1, vr uu2, vr uu48, vr b586, vr uu30, .val cv2] [(.ref uu30)])) rfl (by rw [hml]; rfl) (Steps.refl _) (argsL := []) (rest := []) (lenOf pd_8 rfl) rfl (Nat.le_of_eq rfl) (hb hby at_56) (fun _ _ => ⟨rfl, rfl, (by decide : 16 + 0 ≤ _), (by decide : 68 + 0 ≤ _)⟩)
      dsimp only [Pt.U, Pt.locs, Pt.cells, Pt.slots] at X619 l619 y619 z619 st619 hQ619
      subst l619 y619 z619
      obtain ⟨rfl, N619q, eq619⟩ := hQ619
      have N620 := Fr.app N614 N619q
      refine GoH.step (fun _ k => st619.trans (XS.iload X619.here hx rfl (hb hby at_59) rfl (XS.icmpYes X619.here hx rfl (pc0 := 61) (pc' := 66) rfl (hb hby at_61) rfl (teq (by decide)).1 (by decide) (by decide) (XS.aload X619.here hx rfl (hb hby at_66) rfl rfl (XS.iconst X619.here hx rfl (hb hby at_68) (XS.iload X619.here hx rfl (hb hby at_69) rfl (XS.iloadN X619.here hx rfl (hb hby at_71) rfl (XS.iloadN X619.here hx rfl (hb hby at_72) rfl (XS.iloadN X619.here hx rfl (hb hby at_73) rfl k))))))))) ?_
      show GoH p e below s _ _ _ T619 (mkF m 74 #[vi p1, vi p2, vi p3, .val cv0, .val cv1, vr uu2, vr uu48, vr b586, vr uu30, .val cv2] [(.int p2), (.int p1), cv0, cv2, cv0, (.ref uu30)])
      obtain ⟨_, _, ⟨T621, L621, k621, n621⟩, -, X621, ⟨Lc621, hQ621, l621, y621, z621⟩, st621⟩ := Jvm.LawKit.callS X619 hx (y := xm36) hown610 (mvT hZ610 (tw173 hw)) (mvT hZ610 (tw174 hw)) (mvT hZ610 (tw2 hw)) (mvT hZ610 (tw175 hw)) (by decide) (backOf (W := 0) (rm_ObjectRefToStringPinLaw_ok_0 l Z a0 hw [] uu30 ci0 ci2 ci0 p1 p2 cs uu31 uu32 ci2 ([cv58, (.int (nar .byte ((nar .char (own_ch p2 ci0)).toInt8.toInt32)))]) fv ci58 T610.heap n0 f618 (by decide) (by decide) rfl P610_1 Z_S_COMPACT_STRINGS f617 hcs P610_2 P610_3 f616 Z_S_SIOOBE_FORMATTER hfv rfl (by decide) (by decide) (by decide)) hZ610 (tw175 hw) (tw2 hw) (by decide) (by decide)) (g := (mkF m 74 #[vi p1, vi p2, vi p3, .val cv0, .val cv1, vr uu2, vr uu48, vr b586, vr uu30, .val cv2] [(.int p2), (.int p1), cv0, cv2, cv0, (.ref uu30)])) rfl (by rw [hml]; rfl) (argsL := [(.ref uu30), cv0, cv2, cv0, (.int p1), (.int p2)]) (rest := []) (lenOf pd_24 rfl) rfl (Nat.le_of_eq rfl) (hb hby at_74) (fun _ _ => ⟨rfl, eq619, (by decide : 16 + 0 ≤ _), (by decide : 68 + 0 ≤ _)⟩)
      dsimp only [Pt.U, Pt.locs, Pt.cells, Pt.slots] at X621 l621 y621 z621 st621 hQ621
      subst l621 y621 z621
      obtain ⟨rfl, N621q, eq621⟩ := hQ621
      have N622 := Fr.app N620 N621q
      refine GoH.step (fun _ k => st621 _ (XS.ifNo X621.here hx rfl (hb hby at_77) rfl ((if0 _ _).trans (feq (by decide)).1) (XS.aload X621.here hx rfl (hb hby at_80) rfl rfl (XS.iconst X621.here hx rfl (hb hby at_82) (XS.iload X621.here hx rfl (hb hby at_83) rfl (XS.iloadN X621.here hx rfl (hb hby at_85) rfl (XS.iloadN X621.here hx rfl (hb hby at_86) rfl (XS.iloadN X621.here hx rfl (hb hby at_87) rfl k)))))))) ?_
      show GoH p e below s _ _ _ T621 (mkF m 88 #[vi p1, vi p2, vi p3, .val cv0, .val cv1, vr uu2, vr uu48, vr b586, vr uu30, .val cv2] [(.int p2), (.int p1), cv0, cv2, cv1, (.ref uu30)])
      obtain ⟨_, _, ⟨T640, L640, k640, n640⟩, -, X640, ⟨Lc640, hQ640, l640, y640, z640⟩, st640⟩ := Jvm.LawKit.callS X621 hx (y := xm36) hown610 (mvT hZ610 (tw173 hw)) (mvT hZ610 (tw174 hw)) (mvT hZ610 (tw2 hw)) (mvT hZ610 (tw175 hw)) (by decide) (backOf (W := 0) (rm_ObjectRefToStringPinLaw_ok_2 l Z a0 hw [] uu30 ci1 ci2 ci0 p1 p2 uu31 uu32 ci2 ([cv58, (.int (nar .byte ((nar .char (own_ch p2 ci0)).toInt8.toInt32)))]) (nar .byte ((nar .char (own_ch p2 ci0)).toInt8.toInt32)) cs fv T610.heap n0 f618 (by decide) (by decide) (by decide) P610_1 P610_2 P610_3 f616 rfl Z_S_COMPACT_STRINGS Z_S_SIOOBE_FORMATTER f617 hcs hfv (by decide) (by decide) (own_rt p2 ci0)) hZ610 (tw175 hw) (tw2 hw) (by decide) (by decide)) (g := (mkF m 88 #[vi p1, vi p2, vi p3, .val cv0, .val cv1, vr uu2, vr uu48, vr b586, vr uu30, .val cv2] [(.int p2), (.int p1), cv0, cv2, cv1, (.ref uu30)])) rfl (by rw [hml]; rfl) (argsL := [(.ref uu30), cv1, cv2, cv0, (.int p1), (.int p2)]) (rest := []) (lenOf pd_24 rfl) rfl (Nat.le_of_eq rfl) (hb hby at_88) (fun _ _ => ⟨rfl, eq621, (by decide : 16 + 0 ≤ _), (by decide : 68 + 0 ≤ _)⟩)
      dsimp only [Pt.U, Pt.locs, Pt.cells, Pt.slots] at X640 l640 y640 z640 st640 hQ640
      subst l640 y640 z640
      obtain ⟨rfl, N640q, eq640⟩ := hQ640
      have N641 := Fr.app N622 N640q
      refine GoH.step (fun _ k => st640 _ (XS.ifNo X640.here hx rfl (hb hby at_91) rfl ((if0 _ _).trans (feq (by decide)).1) (XS.aload X640.here hx rfl (hb hby at_94) rfl rfl (XS.iconst X640.here hx rfl (hb hby at_96) (XS.iload X640.here hx rfl (hb hby at_97) rfl (XS.iloadN X640.here hx rfl (hb hby at_99) rfl (XS.iloadN X640.here hx rfl (hb hby at_100) rfl (XS.iloadN X640.here hx rfl (hb hby at_101) rfl k)))))))) ?_
      show GoH p e below s _ _ _ T640 (mkF m 102 #[vi p1, vi p2, vi p3, .val cv0, .val cv1, vr uu2, vr uu48, vr b586, vr uu30, .val cv2] [(.int p2), (.int p1), cv0, cv2, cv2, (.ref uu30)])
      obtain ⟨_, _, ⟨T642, L642, k642, n642⟩, -, X642, ⟨Lc642, hQ642, l642, y642, z642⟩, st642⟩ := Jvm.LawKit.callS X640 hx (y := xm36) hown610 (mvT hZ610 (tw173 hw)) (mvT hZ610 (tw174 hw)) (mvT hZ610 (tw2 hw)) (mvT hZ610 (tw175 hw)) (by decide) (backOf (W := 0) (rm_ObjectRefToStringPinLaw_ok_1 l Z a0 hw [] uu30 ci2 ci2 ci0 p1 p2 T610.heap n0 f618 (by decide)) hZ610 (tw175 hw) (tw2 hw) (by decide) (by decide)) (g := (mkF m 102 #[vi p1, vi p2, vi p3, .val cv0, .val cv1, vr uu2, vr uu48, vr b586, vr uu30, .val cv2] [(.int p2), (.int p1), cv0, cv2, cv2, (.ref uu30)])) rfl (by rw [hml]; rfl) (argsL := [(.ref uu30), cv2, cv2, cv0, (.int p1), (.int p2)]) (rest := []) (lenOf pd_24 rfl) rfl (Nat.le_of_eq rfl) (hb hby at_102) (fun _ _ => ⟨rfl, eq640, (by decide : 16 + 0 ≤ _), (by decide : 68 + 0 ≤ _)⟩)
      dsimp only [Pt.U, Pt.locs, Pt.cells, Pt.slots] at X642 l642 y642 z642 st642 hQ642
      subst l642 y642 z642
      obtain ⟨rfl, N642q, eq642⟩ := hQ642
      have N643 := Fr.app N641 N642q
      refine GoH.step (fun _ k => st642 _ (XS.ifNo X642.here hx rfl (hb hby at_105) rfl ((if0 _ _).trans (feq (by decide)).1) (XS.aload X642.here hx rfl (hb hby at_108) rfl rfl (XS.iconst X642.here hx rfl (hb hby at_110) (XS.iload X642.here hx rfl (hb hby at_111) rfl (XS.iloadN X642.here hx rfl (hb hby at_113) rfl (XS.iloadN X642.here hx rfl (hb hby at_114) rfl (XS.iloadN X642.here hx rfl (hb hby at_115) rfl k)))))))) ?_
      show GoH p e below s _ _ _ T642 (mkF m 116 #[vi p1, vi p2, vi p3, .val cv0, .val cv1, vr uu2, vr uu48, vr b586, vr uu30, .val cv2] [(.int p2), (.int p1), cv0, cv2, cv3, (.ref uu30)])
      obtain ⟨_, _, ⟨T644, L644, k644, n644⟩, -, X644, ⟨Lc644, hQ644, l644, y644, z644⟩, st644⟩ := Jvm.LawKit.callS X642 hx (y := xm36) hown610 (mvT hZ610 (tw173 hw)) (mvT hZ610 (tw174 hw)) (mvT hZ610 (tw2 hw)) (mvT hZ610 (tw175 hw)) (by decide) (backOf (W := 0) (rm_ObjectRefToStringPinLaw_ok_1 l Z a0 hw [] uu30 ci3 ci2 ci0 p1 p2 T610.heap n0 f618 (by decide)) hZ610 (tw175 hw) (tw2 hw) (by decide) (by decide)) (g := (mkF m 116 #[vi p1, vi p2, vi p3, .val cv0, .val cv1, vr uu2, vr uu48, vr b586, vr uu30, .val cv2] [(.int p2), (.int p1), cv0, cv2, cv3, (.ref uu30)])) rfl (by rw [hml]; rfl) (argsL := [(.ref uu30), cv3, cv2, cv0, (.int p1), (.int p2)]) (rest := []) (lenOf pd_24 rfl) rfl (Nat.le_of_eq rfl) (hb hby at_116) (fun _ _ => ⟨rfl, eq642, (by decide : 16 + 0 ≤ _), (by decide : 68 + 0 ≤ _)⟩)
      dsimp only [Pt.U, Pt.locs, Pt.cells, Pt.slots] at X644 l644 y644 z644 st644 hQ644
      subst l644 y644 z644
      obtain ⟨rfl, N644q, eq644⟩ := hQ644
      have N645 := Fr.app N643 N644q
      refine GoH.step (fun _ k => st644 _ (XS.ifNo X644.here hx rfl (hb hby at_119) rfl ((if0 _ _).trans (feq (by decide)).1) (XS.aload X644.here hx rfl (hb hby at_122) rfl rfl (XS.iconst X644.here hx rfl (hb hby at_124) (XS.iload X644.here hx rfl (hb hby at_125) rfl (XS.iloadN X644.here hx rfl (hb hby at_127) rfl (XS.iloadN X644.here hx rfl (hb hby at_128) rfl (XS.iloadN X644.here hx rfl (hb hby at_129) rfl k)))))))) ?_
      show GoH p e below s _ _ _ T644 (mkF m 130 #[vi p1, vi p2, vi p3, .val cv0, .val cv1, vr uu2, vr uu48, vr b586, vr uu30, .val cv2] [(.int p2), (.int p1), cv0, cv2, cv4, (.ref uu30)])
      obtain ⟨_, _, ⟨T646, L646, k646, n646⟩, -, X646, ⟨Lc646, hQ646, l646, y646, z646⟩, st646⟩ := Jvm.LawKit.callS X644 hx (y := xm36) hown610 (mvT hZ610 (tw173 hw)) (mvT hZ610 (tw174 hw)) (mvT hZ610 (tw2 hw)) (mvT hZ610 (tw175 hw)) (by decide) (backOf (W := 0) (rm_ObjectRefToStringPinLaw_ok_1 l Z a0 hw [] uu30 ci4 ci2 ci0 p1 p2 T610.heap n0 f618 (by decide)) hZ610 (tw175 hw) (tw2 hw) (by decide) (by decide)) (g := (mkF m 130 #[vi p1, vi p2, vi p3, .val cv0, .val cv1, vr uu2, vr uu48, vr b586, vr uu30, .val cv2] [(.int p2), (.int p1), cv0, cv2, cv4, (.ref uu30)])) rfl (by rw [hml]; rfl) (argsL := [(.ref uu30), cv4, cv2, cv0, (.int p1), (.int p2)]) (rest := []) (lenOf pd_24 rfl) rfl (Nat.le_of_eq rfl) (hb hby at_130) (fun _ _ => ⟨rfl, eq644, (by decide : 16 + 0 ≤ _), (by decide : 68 + 0 ≤ _)⟩)
      dsimp only [Pt.U, Pt.locs, Pt.cells, Pt.slots] at X646 l646 y646 z646 st646 hQ646
      subst l646 y646 z646
      obtain ⟨rfl, N646q, eq646⟩ := hQ646
      have N647 := Fr.app N645 N646q
      refine GoH.step (fun _ k => st646 _ (XS.ifNo X646.here hx rfl (hb hby at_133) rfl ((if0 _ _).trans (feq (by decide)).1) (XS.aload X646.here hx rfl (hb hby at_136) rfl rfl (XS.iconst X646.here hx rfl (hb hby at_138) (XS.iload X646.here hx rfl (hb hby at_139) rfl (XS.iloadN X646.here hx rfl (hb hby at_141) rfl (XS.iloadN X646.here hx rfl (hb hby at_142) rfl (XS.iloadN X646.here hx rfl (hb hby at_143) rfl k)))))))) ?_
      show GoH p e below s _ _ _ T646 (mkF m 144 #[vi p1, vi p2, vi p3, .val cv0, .val cv1, vr uu2, vr uu48, vr b586, vr uu30, .val cv2] [(.int p2), (.int p1), cv0, cv2, cv5, (.ref uu30)])
      obtain ⟨_, _, ⟨T648, L648, k648, n648⟩, -, X648, ⟨Lc648, hQ648, l648, y648, z648⟩, st648⟩ := Jvm.LawKit.callS X646 hx (y := xm36) hown610 (mvT hZ610 (tw173 hw)) (mvT hZ610 (tw174 hw)) (mvT hZ610 (tw2 hw)) (mvT hZ610 (tw175 hw)) (by decide) (backOf (W := 0) (rm_ObjectRefToStringPinLaw_ok_1 l Z a0 hw [] uu30 ci5 ci2 ci0 p1 p2 T610.heap n0 f618 (by decide)) hZ610 (tw175 hw) (tw2 hw) (by decide) (by decide)) (g := (mkF m 144 #[vi p1, vi p2, vi p3, .val cv0, .val cv1, vr uu2, vr uu48, vr b586, vr uu30, .val cv2] [(.int p2), (.int p1), cv0, cv2, cv5, (.ref uu30)])) rfl (by rw [hml]; rfl) (argsL := [(.ref uu30), cv5, cv2, cv0, (.int p1), (.int p2)]) (rest := []) (lenOf pd_24 rfl) rfl (Nat.le_of_eq rfl) (hb hby at_144) (fun _ _ => ⟨rfl, eq646, (by decide : 16 + 0 ≤ _), (by decide : 68 + 0 ≤ _)⟩)
      dsimp only [Pt.U, Pt.locs, Pt.cells, Pt.slots] at X648 l648 y648 z648 st648 hQ648
      subst l648 y648 z648
      obtain ⟨rfl, N648q, eq648⟩ := hQ648
      have N649 := Fr.app N647 N648q
      refine GoH.step (fun _ k => st648 _ (XS.ifNo X648.here hx rfl (hb hby at_147) rfl ((if0 _ _).trans (feq (by decide)).1) (XS.aload X648.here hx rfl (hb hby at_150) rfl rfl (XS.bipush X648.here hx rfl (hb hby at_152) (XS.iload X648.here hx rfl (hb hby at_154) rfl (XS.iloadN X648.here hx rfl (hb hby at_156) rfl (XS.iloadN X648.here hx rfl (hb hby at_157) rfl (XS.iloadN X648.here hx rfl (hb hby at_158) rfl k)))))))) ?_
      show GoH p e below s _ _ _ T648 (mkF m 159 #[vi p1, vi p2, vi p3, .val cv0, .val cv1, vr uu2, vr uu48, vr b586, vr uu30, .val cv2] [(.int p2), (.int p1), cv0, cv2, cv6, (.ref uu30)])
      obtain ⟨_, _, ⟨T650, L650, k650, n650⟩, -, X650, ⟨Lc650, hQ650, l650, y650, z650⟩, st650⟩ := Jvm.LawKit.callS X648 hx (y := xm36) hown610 (mvT hZ610 (tw173 hw)) (mvT hZ610 (tw174 hw)) (mvT hZ610 (tw2 hw)) (mvT hZ610 (tw175 hw)) (by decide) (backOf (W := 0) (rm_ObjectRefToStringPinLaw_ok_1 l Z a0 hw [] uu30 ci6 ci2 ci0 p1 p2 T610.heap n0 f618 (by decide)) hZ610 (tw175 hw) (tw2 hw) (by decide) (by decide)) (g := (mkF m 159 #[vi p1, vi p2, vi p3, .val cv0, .val cv1, vr uu2, vr uu48, vr b586, vr uu30, .val cv2] [(.int p2), (.int p1), cv0, cv2, cv6, (.ref uu30)])) rfl (by rw [hml]; rfl) (argsL := [(.ref uu30), cv6, cv2, cv0, (.int p1), (.int p2)]) (rest := []) (lenOf pd_24 rfl) rfl (Nat.le_of_eq rfl) (hb hby at_159) (fun _ _ => ⟨rfl, eq648, (by decide : 16 + 0 ≤ _), (by decide : 68 + 0 ≤ _)⟩)
      dsimp only [Pt.U, Pt.locs, Pt.cells, Pt.slots] at X650 l650 y650 z650 st650 hQ650
      subst l650 y650 z650
      obtain ⟨rfl, N650q, eq650⟩ := hQ650
      have N651 := Fr.app N649 N650q
      refine GoH.step (fun _ k => st650 _ (XS.ifNo X650.here hx rfl (hb hby at_162) rfl ((if0 _ _).trans (feq (by decide)).1) (XS.iconst X650.here hx rfl (hb hby at_165) (XS.goto X650.here hx rfl (pc0 := 166) (pc' := 170) rfl (hb hby at_166) (by decide) (by decide) k)))) ?_
      show GoH p e below s _ _ _ T650 (mkF m 170 #[vi p1, vi p2, vi p3, .val cv0, .val cv1, vr uu2, vr uu48, vr b586, vr uu30, .val cv2] [cv1])
      exact GoH.retN X650 hS610 hx hlk (t := .boolean) Bd.returns (by simp) (hb hby at_170) eq650 (Nat.le_refl _) ⟨rfl, N651⟩ (f615.trans (CHv.at X650 hZ610 (own_EW hw) f615.1)) (by decide) (by decide)
    · show GoH p e below s _ _ _ T57 (mkF m 21 #[vi p1, vi p2, vi p3, .val cv0, .val cv2, vr uu2, .unset, .unset, .unset, .unset] [cv2, (.int p2)])
      have f754 := (O0.keep K57 all0)
      have f755 := (Nat.le_trans Z0 K57.1)
      obtain ⟨_, _, ⟨T756, L756, k756, n756⟩, -, X756s, hs756, hg756, ⟨Lc756, hQ756, l756, y756, z756, ch756⟩, st756⟩ := callSS X57 hx (y := xm33) hown57 (mvT hZ57 (tw0 hw)) (mvT hZ57 (tw1 hw)) (mvT hZ57 (tw2 hw)) (mvT hZ57 (tw3 hw)) (by decide) (backOfSH (W := 0) (rm_ObjectRefToStringPinLaw_make_2 l Z a0 hw [] p2 cs T57.heap n0 f755 Z_S_COMPACT_STRINGS f754 hcs (own_c2 p2 ci0) (own_c2 p2 ci1)) hZ57 (tw3 hw) (tw2 hw) (by decide) (by decide) (own_EW hw) f59.1) (g := (mkF m 21 #[vi p1, vi p2, vi p3, .val cv0, .val cv2, vr uu2, .unset, .unset, .unset, .unset] [cv2, (.int p2)])) rfl (by rw [hml]; rfl) (argsL := [(.int p2), cv2]) (rest := []) (lenOf pd_3 rfl) rfl (Nat.le_of_eq rfl) (hb hby at_21) (fun _ _ => ⟨rfl, rfl, (by decide : 6 + 3 ≤ _), (by decide : 12 + 8 ≤ _)⟩)
      dsimp only [Pt.U, Pt.locs, Pt.cells, Pt.slots] at X756s hs756 hg756 l756 y756 z756 st756 hQ756 ch756
      subst l756 y756 z756
      obtain ⟨X756, hS756, hZ756, hown756⟩ := rebS hS57 (by exact (Nat.le_refl _)) X756s hs756 hg756 hZ57 hown57
      obtain ⟨uu51, uu52, uu53, rfl, N756q, K756, P756_0, P756_1, P756_2, P756_3, P756_4, P756_5, P756_6⟩ := hQ756
      have N757 := Fr.app N58 N756q
      have f758 := f59.trans ch756
      refine GoH.step (fun _ k => st756.trans (XS.astore X756.here hx rfl (hb hby at_24) rfl rfl (l' := #[vi p1, vi p2, vi p3, .val cv0, .val cv2, vr uu2, vr uu51, .unset, .unset, .unset]) rfl k)) ?_
      show GoH p e below s _ _ _ T756 (mkF m 26 #[vi p1, vi p2, vi p3, .val cv0, .val cv2, vr uu2, vr uu51, .unset, .unset, .unset] [])
      obtain ⟨T759, h759, X759, e759, E759, A759, D759, -, st759⟩ := newO X756 hx hZ756 hown756 (tw40 hw) (tw41 hw) (tw42 hw) rfl (g := (mkF m 26 #[vi p1, vi p2, vi p3, .val cv0, .val cv2, vr uu2, vr uu51, .unset, .unset, .unset] [])) rfl (hb hby at_26) (by decide) (by decide)
      obtain ⟨b759, g759⟩ : ∃ z, z = T756.heap.size := ⟨_, rfl⟩
      rw [← g759] at A759 D759 st759
      have f760 : Fld Z h759 b759 xs3 "type" xs21 .null := D759 (Or.inr (tw53 hw)) (ty := (.object xs25)) (by decide)
      have f761 : Fld Z h759 b759 xs3 "id" xs21 .null := D759 (Or.inr (tw55 hw)) (ty := (.object xs25)) (by decide)
      refine GoH.step (fun _ k => st759 _ (XS.dup X759.here hx rfl (hb hby at_29) rfl rfl (XS.aload X759.here hx rfl (hb hby at_30) rfl rfl (XS.aload X759.here hx rfl (hb hby at_32) rfl rfl k)))) ?_
      show GoH p e below s _ _ _ T759 (mkF m 34 #[vi p1, vi p2, vi p3, .val cv0, .val cv2, vr uu2, vr uu51, .unset, .unset, .unset] [(.ref uu51), (.ref uu2), (.ref b759), (.ref b759)])
      have f762 := (Nat.le_trans (Nat.le_trans f755 K756.1) E759.1)
      have f763 := (Nat.le_trans f755 K756.1)
      have g764 := Nat.le_trans f763 (Nat.le_of_eq g759.symm)
      obtain ⟨_, _, ⟨T765, L765, k765, n765⟩, -, X765, ⟨Lc765, hQ765, l765, y765, z765⟩, st765⟩ := X759.specialBack hx (y := xm31) rfl hown756 (mvT hZ756 (tw43 hw)) (mvT hZ756 (tw44 hw)) (mvT hZ756 (tw45 hw)) (by decide) (backOf (W := 1) (rm_ObjectRef_new_0 l Z a0 hw [] b759 uu2 uu51 h759 n0 f762 A759 f760 g764 f761) hZ756 (tw45 hw) (tw42 hw) (by decide) (by decide)) (g := (mkF m 34 #[vi p1, vi p2, vi p3, .val cv0, .val cv2, vr uu2, vr uu51, .unset, .unset, .unset] [(.ref uu51), (.ref uu2), (.ref b759), (.ref b759)])) rfl (by rw [hml]; rfl) (Steps.refl _) (a := b759) (argsL := [(.ref uu2), (.ref uu51)]) (rest := [(.ref b759)]) (lenOf pd_5 rfl) rfl (Nat.le_of_eq rfl) (hb hby at_34) (fun _ _ => ⟨rfl, e759, (by decide : 10 + 0 ≤ _), (by decide : 22 + 0 ≤ _)⟩)
      dsimp only [Pt.U, Pt.locs, Pt.cells, Pt.slots] at X765 l765 y765 z765 st765 hQ765
      subst l765 y765 z765
      obtain ⟨rfl, N765q, K765, P765_0, P765_1⟩ := hQ765
      have N766 := Fr.app N757 N765q
      refine GoH.step (fun _ k => st765.trans (XS.astore X765.here hx rfl (hb hby at_37) rfl rfl (l' := #[vi p1, vi p2, vi p3, .val cv0, .val cv2, vr uu2, vr uu51, vr b759, .unset, .unset]) rfl (XS.aload X765.here hx rfl (hb hby at_39) rfl rfl k))) ?_
      show GoH p e below s _ _ _ T765 (mkF m 41 #[vi p1, vi p2, vi p3, .val cv0, .val cv2, vr uu2, vr uu51, vr b759, .unset, .unset] [(.ref b759)])
      have f767 := (((f754.keep K756 all0).ext E759).keep K765 (allS g764 all0))
      have f768 := (Nat.le_trans f762 K765.1)
      have f769 := (((P57_1.keep K756).ext E759).keep K765)
      have f770 := (P57_1.keep K756)
      have ne771 : uu2 ≠ b759 := Nat.ne_of_lt (Nat.lt_of_lt_of_le f770.lt (Nat.le_of_eq g759.symm))
      have f772 := (((P57_3.keep K756 nin0).ext E759).keep K765 (ninS ne771 nin0))
      have f773 := (P57_4.keep K756 nin0)
      have ne774 : uu6 ≠ b759 := Nat.ne_of_lt (Nat.lt_of_lt_of_le f773.lt (Nat.le_of_eq g759.symm))
      have f775 := (((P57_4.keep K756 nin0).ext E759).keep K765 (ninS ne774 nin0))
      have f776 := (((P57_2.keep K756 nin0).ext E759).keep K765 (ninS ne771 nin0))
      have f777 := ((P756_1.ext E759).keep K765)
      have ne778 : uu51 ≠ b759 := Nat.ne_of_lt (Nat.lt_of_lt_of_le P756_1.lt (Nat.le_of_eq g759.symm))
      have f779 := ((P756_3.ext E759).keep K765 (ninS ne778 nin0))
      have ne780 : uu52 ≠ b759 := Nat.ne_of_lt (Nat.lt_of_lt_of_le P756_5.lt (Nat.le_of_eq g759.symm))
      have f781 := ((P756_5.ext E759).keep K765 (ninS ne780 nin0))
      have f782 := ((P756_2.ext E759).keep K765 (ninS ne778 nin0))
      have f784 := (own_chK (own_chE f758 E759) K765 (sfS (Safe.exa hZ756.alike A759 (by decide) (by decide)) sf0))
      have f785 := (A759.keep K765)
      obtain ⟨cq783, kq783, q783a, q783b, q783c⟩ := isOf hZ756 rfl f785
      obtain ⟨_, _, ⟨T783, L783, k783, n783⟩, -, X783s, hs783, hg783, ⟨Lc783, hQ783, l783, y783, z783, ch783⟩, st783⟩ := X765.virtualBackS hx (y := xm21) (z := xm21) hown756 (mvT hZ756 (tw56 hw)) (mvT hZ756 (tw57 hw)) (notFace_of_selects (args := #[]) (mvT hZ756 (tw59 hw))) (mvT hZ756 (tw59 hw)) (mvT hZ756 (tw58 hw)) (by decide) (backOfSH (W := 0) (rm_ObjectRef_toString_0 l Z a0 hw [] b759 cs uu2 uu6 kb13_41_49_57 ci0 ([]) uu51 uu52 uu53 ci2 ([(.int (nar .byte ((nar .char (own_ch p2 ci0)).toInt8.toInt32))), (.int (nar .byte ((nar .char (own_ch p2 ci1)).toInt8.toInt32)))]) T765.heap n0 f768 Z_S_COMPACT_STRINGS f767 hcs P765_0 f769 f772 f775 f776 (by decide) (by decide) (Nat.le_of_ble_eq_true rfl) (Nat.le_of_ble_eq_true rfl) (Nat.le_of_ble_eq_true rfl) (by decide) (by decide) (Nat.le_of_ble_eq_true rfl) (Nat.le_of_ble_eq_true rfl) P765_1 f777 f779 f781 f782 (by decide) (by decide) (by decide) (Nat.le_of_ble_eq_true rfl) (Nat.le_of_ble_eq_true rfl) (Nat.le_of_ble_eq_true rfl) (by decide) (by decide) (by decide) (Nat.le_of_ble_eq_true rfl) (by decide) (Nat.le_of_ble_eq_true rfl) (Nat.le_of_ble_eq_true rfl) (Nat.le_of_ble_eq_true rfl)) hZ756 (tw60 hw) (tw42 hw) (by decide) (by decide) (own_EW hw) f784.1) q783a q783c (g := (mkF m 41 #[vi p1, vi p2, vi p3, .val cv0, .val cv2, vr uu2, vr uu51, vr b759, .unset, .unset] [(.ref b759)])) rfl (by rw [hml]; rfl) (Steps.refl _) (argsL := []) (rest := []) (lenOf pd_21 rfl) rfl (Nat.le_of_eq rfl) (hb hby at_41) (fun _ _ => ⟨rfl, rfl, (by decide : 10 + 6 ≤ _), (by decide : 22 + 48 ≤ _)⟩)
      dsimp only [Pt.U, Pt.locs, Pt.cells, Pt.slots] at X783s hs783 hg783 l783 y783 z783 st783 hQ783 ch783
      subst l783 y783 z783
      have f786 := (Nat.le_trans (Nat.le_trans (Nat.le_refl _) E759.1) K765.1)
      obtain ⟨X783, hS783, hZ783, hown783⟩ := rebS hS756 (by exact f786) X783s hs783 hg783 hZ756 hown756
      obtain ⟨uu54, uu55, uu56, rfl, N783q, K783, P783_0, P783_1, P783_2, P783_3, P783_4, P783_5, P783_6⟩ := hQ783
      have N787 := Fr.app N766 N783q
      have f788 := f784.trans ch783
      refine GoH.step (fun _ k => st783.trans k) ?_
      show GoH p e below s _ _ _ T783 (mkF m 44 #[vi p1, vi p2, vi p3, .val cv0, .val cv2, vr uu2, vr uu51, vr b759, .unset, .unset] [(.ref uu54)])
      have f789 : Arv Z T783.heap uu55 uu56 .byte ci3 [cv58, (.int (nar .byte ((nar .char (own_ch p2 ci0)).toInt8.toInt32))), (.int (nar .byte ((nar .char (own_ch p2 ci1)).toInt8.toInt32)))] cv0 := P783_5
      refine GoH.step (fun _ k => XS.astore X783.here hx rfl (hb hby at_44) rfl rfl (l' := #[vi p1, vi p2, vi p3, .val cv0, .val cv2, vr uu2, vr uu51, vr b759, vr uu54, .unset]) rfl (XS.iloadN X783.here hx rfl (hb hby at_46) rfl (XS.iconst X783.here hx rfl (hb hby at_47) (XS.iadd X783.here hx rfl (hb hby at_48) rfl (XS.iload X783.here hx rfl (hb hby at_49) rfl (XS.iadd X783.here hx rfl (hb hby at_51) rfl (XS.istore X783.here hx rfl (hb hby at_52) rfl (l' := #[vi p1, vi p2, vi p3, .val cv0, .val cv2, vr uu2, vr uu51, vr b759, vr uu54, .val cv3]) rfl (XS.aload X783.here hx rfl (hb hby at_54) rfl rfl k)))))))) ?_
      show GoH p e below s _ _ _ T783 (mkF m 56 #[vi p1, vi p2, vi p3, .val cv0, .val cv2, vr uu2, vr uu51, vr b759, vr uu54, .val cv3] [(.ref uu54)])
      have f790 := (f767.keep K783 all0)
      have f791 := (Nat.le_trans f768 K783.1)
      obtain ⟨cq792, kq792, q792a, q792b, q792c⟩ := isOf hZ783 rfl P783_1
      obtain ⟨_, _, ⟨T792, L792, k792, n792⟩, -, X792, ⟨Lc792, hQ792, l792, y792, z792⟩, st792⟩ := X783.virtualBack hx (y := xm19) (z := xm19) hown783 (mvT hZ783 (tw172 hw)) (mvT hZ783 (tw90 hw)) (notFace_of_selects (args := #[]) (mvT hZ783 (tw92 hw))) (mvT hZ783 (tw92 hw)) (mvT hZ783 (tw91 hw)) (by decide) (backOf (W := 0) (rm_String_length_0 l Z a0 hw [] uu54 uu55 uu56 ci3 ([cv58, (.int (nar .byte ((nar .char (own_ch p2 ci0)).toInt8.toInt32))), (.int (nar .byte ((nar .char (own_ch p2 ci1)).toInt8.toInt32)))]) cs T783.heap n0 f791 P783_3 f789 P783_1 Z_S_COMPACT_STRINGS f790 hcs P783_2) hZ783 (tw93 hw) (tw6 hw) (by decide) (by decide)) q792a q792c (g := (mkF m 56 #[vi p1, vi p2, vi p3, .val cv0, .val cv2, vr uu2, vr uu51, vr b759, vr uu54, .val cv3] [(.ref uu54)])) rfl (by rw [hml]; rfl) (Steps.refl _) (argsL := []) (rest := []) (lenOf pd_8 rfl) rfl (Nat.le_of_eq rfl) (hb hby at_56) (fun _ _ => ⟨rfl, rfl, (by decide : 16 + 0 ≤ _), (by decide : 70 + 0 ≤ _)⟩)
      dsimp only [Pt.U, Pt.locs, Pt.cells, Pt.slots] at X792 l792 y792 z792 st792 hQ792
      subst l792 y792 z792
      obtain ⟨rfl, N792q, eq792⟩ := hQ792
      have N793 := Fr.app N787 N792q
      refine GoH.step (fun _ k => st792.trans (XS.iload X792.here hx rfl (hb hby at_59) rfl (XS.icmpYes X792.here hx rfl (pc0 := 61) (pc' := 66) rfl (hb hby at_61) rfl (teq (by decide)).1 (by decide) (by decide) (XS.aload X792.here hx rfl (hb hby at_66) rfl rfl (XS.iconst X792.here hx rfl (hb hby at_68) (XS.iload X792.here hx rfl (hb hby at_69) rfl (XS.iloadN X792.here hx rfl (hb hby at_71) rfl (XS.iloadN X792.here hx rfl (hb hby at_72) rfl (XS.iloadN X792.here hx rfl (hb hby at_73) rfl k))))))))) ?_
      show GoH p e below s _ _ _ T792 (mkF m 74 #[vi p1, vi p2, vi p3, .val cv0, .val cv2, vr uu2, vr uu51, vr b759, vr uu54, .val cv3] [(.int p2), (.int p1), cv0, cv3, cv0, (.ref uu54)])
      obtain ⟨_, _, ⟨T794, L794, k794, n794⟩, -, X794, ⟨Lc794, hQ794, l794, y794, z794⟩, st794⟩ := Jvm.LawKit.callS X792 hx (y := xm36) hown783 (mvT hZ783 (tw173 hw)) (mvT hZ783 (tw174 hw)) (mvT hZ783 (tw2 hw)) (mvT hZ783 (tw175 hw)) (by decide) (backOf (W := 0) (rm_ObjectRefToStringPinLaw_ok_0 l Z a0 hw [] uu54 ci0 ci3 ci0 p1 p2 cs uu55 uu56 ci3 ([cv58, (.int (nar .byte ((nar .char (own_ch p2 ci0)).toInt8.toInt32))), (.int (nar .byte ((nar .char (own_ch p2 ci1)).toInt8.toInt32)))]) fv ci58 T783.heap n0 f791 (by decide) (by decide) rfl P783_1 Z_S_COMPACT_STRINGS f790 hcs P783_2 P783_3 f789 Z_S_SIOOBE_FORMATTER hfv rfl (by decide) (by decide) (by decide)) hZ783 (tw175 hw) (tw2 hw) (by decide) (by decide)) (g := (mkF m 74 #[vi p1, vi p2, vi p3, .val cv0, .val cv2, vr uu2, vr uu51, vr b759, vr uu54, .val cv3] [(.int p2), (.int p1), cv0, cv3, cv0, (.ref uu54)])) rfl (by rw [hml]; rfl) (argsL := [(.ref uu54), cv0, cv3, cv0, (.int p1), (.int p2)]) (rest := []) (lenOf pd_24 rfl) rfl (Nat.le_of_eq rfl) (hb hby at_74) (fun _ _ => ⟨rfl, eq792, (by decide : 16 + 0 ≤ _), (by decide : 70 + 0 ≤ _)⟩)
      dsimp only [Pt.U, Pt.locs, Pt.cells, Pt.slots] at X794 l794 y794 z794 st794 hQ794
      subst l794 y794 z794
      obtain ⟨rfl, N794q, eq794⟩ := hQ794
      have N795 := Fr.app N793 N794q
      refine GoH.step (fun _ k => st794 _ (XS.ifNo X794.here hx rfl (hb hby at_77) rfl ((if0 _ _).trans (feq (by decide)).1) (XS.aload X794.here hx rfl (hb hby at_80) rfl rfl (XS.iconst X794.here hx rfl (hb hby at_82) (XS.iload X794.here hx rfl (hb hby at_83) rfl (XS.iloadN X794.here hx rfl (hb hby at_85) rfl (XS.iloadN X794.here hx rfl (hb hby at_86) rfl (XS.iloadN X794.here hx rfl (hb hby at_87) rfl k)))))))) ?_
      show GoH p e below s _ _ _ T794 (mkF m 88 #[vi p1, vi p2, vi p3, .val cv0, .val cv2, vr uu2, vr uu51, vr b759, vr uu54, .val cv3] [(.int p2), (.int p1), cv0, cv3, cv1, (.ref uu54)])
      obtain ⟨_, _, ⟨T796, L796, k796, n796⟩, -, X796, ⟨Lc796, hQ796, l796, y796, z796⟩, st796⟩ := Jvm.LawKit.callS X794 hx (y := xm36) hown783 (mvT hZ783 (tw173 hw)) (mvT hZ783 (tw174 hw)) (mvT hZ783 (tw2 hw)) (mvT hZ783 (tw175 hw)) (by decide) (backOf (W := 0) (rm_ObjectRefToStringPinLaw_ok_2 l Z a0 hw [] uu54 ci1 ci3 ci0 p1 p2 uu55 uu56 ci3 ([cv58, (.int (nar .byte ((nar .char (own_ch p2 ci0)).toInt8.toInt32))), (.int (nar .byte ((nar .char (own_ch p2 ci1)).toInt8.toInt32)))]) (nar .byte ((nar .char (own_ch p2 ci0)).toInt8.toInt32)) cs fv T783.heap n0 f791 (by decide) (by decide) (by decide) P783_1 P783_2 P783_3 f789 rfl Z_S_COMPACT_STRINGS Z_S_SIOOBE_FORMATTER f790 hcs hfv (by decide) (by decide) (own_rt p2 ci0)) hZ783 (tw175 hw) (tw2 hw) (by decide) (by decide)) (g := (mkF m 88 #[vi p1, vi p2, vi p3, .val cv0, .val cv2, vr uu2, vr uu51, vr b759, vr uu54, .val cv3] [(.int p2), (.int p1), cv0, cv3, cv1, (.ref uu54)])) rfl (by rw [hml]; rfl) (argsL := [(.ref uu54), cv1, cv3, cv0, (.int p1), (.int p2)]) (rest := []) (lenOf pd_24 rfl) rfl (Nat.le_of_eq rfl) (hb hby at_88) (fun _ _ => ⟨rfl, eq794, (by decide : 16 + 0 ≤ _), (by decide : 70 + 0 ≤ _)⟩)
      dsimp only [Pt.U, Pt.locs, Pt.cells, Pt.slots] at X796 l796 y796 z796 st796 hQ796
      subst l796 y796 z796
      obtain ⟨rfl, N796q, eq796⟩ := hQ796
      have N797 := Fr.app N795 N796q
      refine GoH.step (fun _ k => st796 _ (XS.ifNo X796.here hx rfl (hb hby at_91) rfl ((if0 _ _).trans (feq (by decide)).1) (XS.aload X796.here hx rfl (hb hby at_94) rfl rfl (XS.iconst X796.here hx rfl (hb hby at_96) (XS.iload X796.here hx rfl (hb hby at_97) rfl (XS.iloadN X796.here hx rfl (hb hby at_99) rfl (XS.iloadN X796.here hx rfl (hb hby at_100) rfl (XS.iloadN X796.here hx rfl (hb hby at_101) rfl k)))))))) ?_
      show GoH p e below s _ _ _ T796 (mkF m 102 #[vi p1, vi p2, vi p3, .val cv0, .val cv2, vr uu2, vr uu51, vr b759, vr uu54, .val cv3] [(.int p2), (.int p1), cv0, cv3, cv2, (.ref uu54)])
      obtain ⟨_, _, ⟨T798, L798, k798, n798⟩, -, X798, ⟨Lc798, hQ798, l798, y798, z798⟩, st798⟩ := Jvm.LawKit.callS X796 hx (y := xm36) hown783 (mvT hZ783 (tw173 hw)) (mvT hZ783 (tw174 hw)) (mvT hZ783 (tw2 hw)) (mvT hZ783 (tw175 hw)) (by decide) (backOf (W := 0) (rm_ObjectRefToStringPinLaw_ok_2 l Z a0 hw [] uu54 ci2 ci3 ci0 p1 p2 uu55 uu56 ci3 ([cv58, (.int (nar .byte ((nar .char (own_ch p2 ci0)).toInt8.toInt32))), (.int (nar .byte ((nar .char (own_ch p2 ci1)).toInt8.toInt32)))]) (nar .byte ((nar .char (own_ch p2 ci1)).toInt8.toInt32)) cs fv T783.heap n0 f791 (by decide) (by decide) (by decide) P783_1 P783_2 P783_3 f789 rfl Z_S_COMPACT_STRINGS Z_S_SIOOBE_FORMATTER f790 hcs hfv (by decide) (by decide) (own_rt p2 ci1)) hZ783 (tw175 hw) (tw2 hw) (by decide) (by decide)) (g := (mkF m 102 #[vi p1, vi p2, vi p3, .val cv0, .val cv2, vr uu2, vr uu51, vr b759, vr uu54, .val cv3] [(.int p2), (.int p1), cv0, cv3, cv2, (.ref uu54)])) rfl (by rw [hml]; rfl) (argsL := [(.ref uu54), cv2, cv3, cv0, (.int p1), (.int p2)]) (rest := []) (lenOf pd_24 rfl) rfl (Nat.le_of_eq rfl) (hb hby at_102) (fun _ _ => ⟨rfl, eq796, (by decide : 16 + 0 ≤ _), (by decide : 70 + 0 ≤ _)⟩)
      dsimp only [Pt.U, Pt.locs, Pt.cells, Pt.slots] at X798 l798 y798 z798 st798 hQ798
      subst l798 y798 z798
      obtain ⟨rfl, N798q, eq798⟩ := hQ798
      have N799 := Fr.app N797 N798q
      refine GoH.step (fun _ k => st798 _ (XS.ifNo X798.here hx rfl (hb hby at_105) rfl ((if0 _ _).trans (feq (by decide)).1) (XS.aload X798.here hx rfl (hb hby at_108) rfl rfl (XS.iconst X798.here hx rfl (hb hby at_110) (XS.iload X798.here hx rfl (hb hby at_111) rfl (XS.iloadN X798.here hx rfl (hb hby at_113) rfl (XS.iloadN X798.here hx rfl (hb hby at_114) rfl (XS.iloadN X798.here hx rfl (hb hby at_115) rfl k)))))))) ?_
      show GoH p e below s _ _ _ T798 (mkF m 116 #[vi p1, vi p2, vi p3, .val cv0, .val cv2, vr uu2, vr uu51, vr b759, vr uu54, .val cv3] [(.int p2), (.int p1), cv0, cv3, cv3, (.ref uu54)])
      obtain ⟨_, _, ⟨T800, L800, k800, n800⟩, -, X800, ⟨Lc800, hQ800, l800, y800, z800⟩, st800⟩ := Jvm.LawKit.callS X798 hx (y := xm36) hown783 (mvT hZ783 (tw173 hw)) (mvT hZ783 (tw174 hw)) (mvT hZ783 (tw2 hw)) (mvT hZ783 (tw175 hw)) (by decide) (backOf (W := 0) (rm_ObjectRefToStringPinLaw_ok_1 l Z a0 hw [] uu54 ci3 ci3 ci0 p1 p2 T783.heap n0 f791 (by decide)) hZ783 (tw175 hw) (tw2 hw) (by decide) (by decide)) (g := (mkF m 116 #[vi p1, vi p2, vi p3, .val cv0, .val cv2, vr uu2, vr uu51, vr b759, vr uu54, .val cv3] [(.int p2), (.int p1), cv0, cv3, cv3, (.ref uu54)])) rfl (by rw [hml]; rfl) (argsL := [(.ref uu54), cv3, cv3, cv0, (.int p1), (.int p2)]) (rest := []) (lenOf pd_24 rfl) rfl (Nat.le_of_eq rfl) (hb hby at_116) (fun _ _ => ⟨rfl, eq798, (by decide : 16 + 0 ≤ _), (by decide : 70 + 0 ≤ _)⟩)
      dsimp only [Pt.U, Pt.locs, Pt.cells, Pt.slots] at X800 l800 y800 z800 st800 hQ800
      subst l800 y800 z800
      obtain ⟨rfl, N800q, eq800⟩ := hQ800
      have N801 := Fr.app N799 N800q
      refine GoH.step (fun _ k => st800 _ (XS.ifNo X800.here hx rfl (hb hby at_119) rfl ((if0 _ _).trans (feq (by decide)).1) (XS.aload X800.here hx rfl (hb hby at_122) rfl rfl (XS.iconst X800.here hx rfl (hb hby at_124) (XS.iload X800.here hx rfl (hb hby at_125) rfl (XS.iloadN X800.here hx rfl (hb hby at_127) rfl (XS.iloadN X800.here hx rfl (hb hby at_128) rfl (XS.iloadN X800.here hx rfl (hb hby at_129) rfl k)))))))) ?_
      show GoH p e below s _ _ _ T800 (mkF m 130 #[vi p1, vi p2, vi p3, .val cv0, .val cv2, vr uu2, vr uu51, vr b759, vr uu54, .val cv3] [(.int p2), (.int p1), cv0, cv3, cv4, (.ref uu54)])
      obtain ⟨_, _, ⟨T802, L802, k802, n802⟩, -, X802, ⟨Lc802, hQ802, l802, y802, z802⟩, st802⟩ := Jvm.LawKit.callS X800 hx (y := xm36) hown783 (mvT hZ783 (tw173 hw)) (mvT hZ783 (tw174 hw)) (mvT hZ783 (tw2 hw)) (mvT hZ783 (tw175 hw)) (by decide) (backOf (W := 0) (rm_ObjectRefToStringPinLaw_ok_1 l Z a0 hw [] uu54 ci4 ci3 ci0 p1 p2 T783.heap n0 f791 (by decide)) hZ783 (tw175 hw) (tw2 hw) (by decide) (by decide)) (g := (mkF m 130 #[vi p1, vi p2, vi p3, .val cv0, .val cv2, vr uu2, vr uu51, vr b759, vr uu54, .val cv3] [(.int p2), (.int p1), cv0, cv3, cv4, (.ref uu54)])) rfl (by rw [hml]; rfl) (argsL := [(.ref uu54), cv4, cv3, cv0, (.int p1), (.int p2)]) (rest := []) (lenOf pd_24 rfl) rfl (Nat.le_of_eq rfl) (hb hby at_130) (fun _ _ => ⟨rfl, eq800, (by decide : 16 + 0 ≤ _), (by decide : 70 + 0 ≤ _)⟩)
      dsimp only [Pt.U, Pt.locs, Pt.cells, Pt.slots] at X802 l802 y802 z802 st802 hQ802
      subst l802 y802 z802
      obtain ⟨rfl, N802q, eq802⟩ := hQ802
      have N803 := Fr.app N801 N802q
      refine GoH.step (fun _ k => st802 _ (XS.ifNo X802.here hx rfl (hb hby at_133) rfl ((if0 _ _).trans (feq (by decide)).1) (XS.aload X802.here hx rfl (hb hby at_136) rfl rfl (XS.iconst X802.here hx rfl (hb hby at_138) (XS.iload X802.here hx rfl (hb hby at_139) rfl (XS.iloadN X802.here hx rfl (hb hby at_141) rfl (XS.iloadN X802.here hx rfl (hb hby at_142) rfl (XS.iloadN X802.here hx rfl (hb hby at_143) rfl k)))))))) ?_
      show GoH p e below s _ _ _ T802 (mkF m 144 #[vi p1, vi p2, vi p3, .val cv0, .val cv2, vr uu2, vr uu51, vr b759, vr uu54, .val cv3] [(.int p2), (.int p1), cv0, cv3, cv5, (.ref uu54)])
      obtain ⟨_, _, ⟨T804, L804, k804, n804⟩, -, X804, ⟨Lc804, hQ804, l804, y804, z804⟩, st804⟩ := Jvm.LawKit.callS X802 hx (y := xm36) hown783 (mvT hZ783 (tw173 hw)) (mvT hZ783 (tw174 hw)) (mvT hZ783 (tw2 hw)) (mvT hZ783 (tw175 hw)) (by decide) (backOf (W := 0) (rm_ObjectRefToStringPinLaw_ok_1 l Z a0 hw [] uu54 ci5 ci3 ci0 p1 p2 T783.heap n0 f791 (by decide)) hZ783 (tw175 hw) (tw2 hw) (by decide) (by decide)) (g := (mkF m 144 #[vi p1, vi p2, vi p3, .val cv0, .val cv2, vr uu2, vr uu51, vr b759, vr uu54, .val cv3] [(.int p2), (.int p1), cv0, cv3, cv5, (.ref uu54)])) rfl (by rw [hml]; rfl) (argsL := [(.ref uu54), cv5, cv3, cv0, (.int p1), (.int p2)]) (rest := []) (lenOf pd_24 rfl) rfl (Nat.le_of_eq rfl) (hb hby at_144) (fun _ _ => ⟨rfl, eq802, (by decide : 16 + 0 ≤ _), (by decide : 70 + 0 ≤ _)⟩)
      dsimp only [Pt.U, Pt.locs, Pt.cells, Pt.slots] at X804 l804 y804 z804 st804 hQ804
      subst l804 y804 z804
      obtain ⟨rfl, N804q, eq804⟩ := hQ804
      have N805 := Fr.app N803 N804q
      refine GoH.step (fun _ k => st804 _ (XS.ifNo X804.here hx rfl (hb hby at_147) rfl ((if0 _ _).trans (feq (by decide)).1) (XS.aload X804.here hx rfl (hb hby at_150) rfl rfl (XS.bipush X804.here hx rfl (hb hby at_152) (XS.iload X804.here hx rfl (hb hby at_154) rfl (XS.iloadN X804.here hx rfl (hb hby at_156) rfl (XS.iloadN X804.here hx rfl (hb hby at_157) rfl (XS.iloadN X804.here hx rfl (hb hby at_158) rfl k)))))))) ?_
      show GoH p e below s _ _ _ T804 (mkF m 159 #[vi p1, vi p2, vi p3, .val cv0, .val cv2, vr uu2, vr uu51, vr b759, vr uu54, .val cv3] [(.int p2), (.int p1), cv0, cv3, cv6, (.ref uu54)])
      obtain ⟨_, _, ⟨T806, L806, k806, n806⟩, -, X806, ⟨Lc806, hQ806, l806, y806, z806⟩, st806⟩ := Jvm.LawKit.callS X804 hx (y := xm36) hown783 (mvT hZ783 (tw173 hw)) (mvT hZ783 (tw174 hw)) (mvT hZ783 (tw2 hw)) (mvT hZ783 (tw175 hw)) (by decide) (backOf (W := 0) (rm_ObjectRefToStringPinLaw_ok_1 l Z a0 hw [] uu54 ci6 ci3 ci0 p1 p2 T783.heap n0 f791 (by decide)) hZ783 (tw175 hw) (tw2 hw) (by decide) (by decide)) (g := (mkF m 159 #[vi p1, vi p2, vi p3, .val cv0, .val cv2, vr uu2, vr uu51, vr b759, vr uu54, .val cv3] [(.int p2), (.int p1), cv0, cv3, cv6, (.ref uu54)])) rfl (by rw [hml]; rfl) (argsL := [(.ref uu54), cv6, cv3, cv0, (.int p1), (.int p2)]) (rest := []) (lenOf pd_24 rfl) rfl (Nat.le_of_eq rfl) (hb hby at_159) (fun _ _ => ⟨rfl, eq804, (by decide : 16 + 0 ≤ _), (by decide : 70 + 0 ≤ _)⟩)
      dsimp only [Pt.U, Pt.locs, Pt.cells, Pt.slots] at X806 l806 y806 z806 st806 hQ806
      subst l806 y806 z806
      obtain ⟨rfl, N806q, eq806⟩ := hQ806
      have N807 := Fr.app N805 N806q
      refine GoH.step (fun _ k => st806 _ (XS.ifNo X806.here hx rfl (hb hby at_162) rfl ((if0 _ _).trans (feq (by decide)).1) (XS.iconst X806.here hx rfl (hb hby at_165) (XS.goto X806.here hx rfl (pc0 := 166) (pc' := 170) rfl (hb hby at_166) (by decide) (by decide) k)))) ?_
      show GoH p e below s _ _ _ T806 (mkF m 170 #[vi p1, vi p2, vi p3, .val cv0, .val cv2, vr uu2, vr uu51, vr b759, vr uu54, .val cv3] [cv1])
      exact GoH.retN X806 hS783 hx hlk (t := .boolean) Bd.returns (by simp) (hb hby at_170) eq806 (Nat.le_refl _) ⟨rfl, N807⟩ (f788.trans (CHv.at X806 hZ783 (own_EW hw) f788.1)) (by decide) (by decide)
    · show GoH p e below s _ _ _ T57 (mkF m 21 #[vi p1, vi p2, vi p3, .val cv0, .val cv3, vr uu2, .unset, .unset, .unset, .unset] [cv3, (.int p2)])
      have f924 := (O0.keep K57 all0)
      have f925 := (Nat.le_trans Z0 K57.1)
      obtain ⟨_, _, ⟨T926, L926, k926, n926⟩, -, X926s, hs926, hg926, ⟨Lc926, hQ926, l926, y926, z926, ch926⟩, st926⟩ := callSS X57 hx (y := xm33) hown57 (mvT hZ57 (tw0 hw)) (mvT hZ57 (tw1 hw)) (mvT hZ57 (tw2 hw)) (mvT hZ57 (tw3 hw)) (by decide) (backOfSH (W := 0) (rm_ObjectRefToStringPinLaw_make_3 l Z a0 hw [] p2 cs T57.heap n0 f925 Z_S_COMPACT_STRINGS f924 hcs (own_c2 p2 ci0) (own_c2 p2 ci1) (own_c2 p2 ci2)) hZ57 (tw3 hw) (tw2 hw) (by decide) (by decide) (own_EW hw) f59.1) (g := (mkF m 21 #[vi p1, vi p2, vi p3, .val cv0, .val cv3, vr uu2, .unset, .unset, .unset, .unset] [cv3, (.int p2)])) rfl (by rw [hml]; rfl) (argsL := [(.int p2), cv3]) (rest := []) (lenOf pd_3 rfl) rfl (Nat.le_of_eq rfl) (hb hby at_21) (fun _ _ => ⟨rfl, rfl, (by decide : 6 + 3 ≤ _), (by decide : 12 + 10 ≤ _)⟩)
      dsimp only [Pt.U, Pt.locs, Pt.cells, Pt.slots] at X926s hs926 hg926 l926 y926 z926 st926 hQ926 ch926
      subst l926 y926 z926
      obtain ⟨X926, hS926, hZ926, hown926⟩ := rebS hS57 (by exact (Nat.le_refl _)) X926s hs926 hg926 hZ57 hown57
      obtain ⟨uu57, uu58, uu59, rfl, N926q, K926, P926_0, P926_1, P926_2, P926_3, P926_4, P926_5, P926_6⟩ := hQ926
      have N927 := Fr.app N58 N926q
      have f928 := f59.trans ch926
      refine GoH.step (fun _ k => st926.trans (XS.astore X926.here hx rfl (hb hby at_24) rfl rfl (l' := #[vi p1, vi p2, vi p3, .val cv0, .val cv3, vr uu2, vr uu57, .unset, .unset, .unset]) rfl k)) ?_
      show GoH p e below s _ _ _ T926 (mkF m 26 #[vi p1, vi p2, vi p3, .val cv0, .val cv3, vr uu2, vr uu57, .unset, .unset, .unset] [])
      obtain ⟨T929, h929, X929, e929, E929, A929, D929, -, st929⟩ := newO X926 hx hZ926 hown926 (tw40 hw) (tw41 hw) (tw42 hw) rfl (g := (mkF m 26 #[vi p1, vi p2, vi p3, .val cv0, .val cv3, vr uu2, vr uu57, .unset, .unset, .unset] [])) rfl (hb hby at_26) (by decide) (by decide)
      obtain ⟨b929, g929⟩ : ∃ z, z = T926.heap.size := ⟨_, rfl⟩
      rw [← g929] at A929 D929 st929
      have f930 : Fld Z h929 b929 xs3 "type" xs21 .null := D929 (Or.inr (tw53 hw)) (ty := (.object xs25)) (by decide)
      have f931 : Fld Z h929 b929 xs3 "id" xs21 .null := D929 (Or.inr (tw55 hw)) (ty := (.object xs25)) (by decide)
      refine GoH.step (fun _ k => st929 _ (XS.dup X929.here hx rfl (hb hby at_29) rfl rfl (XS.aload X929.here hx rfl (hb hby at_30) rfl rfl (XS.aload X929.here hx rfl (hb hby at_32) rfl rfl k)))) ?_
      show GoH p e below s _ _ _ T929 (mkF m 34 #[vi p1, vi p2, vi p3, .val cv0, .val cv3, vr uu2, vr uu57, .unset, .unset, .unset] [(.ref uu57), (.ref uu2), (.ref b929), (.ref b929)])
      have f932 := (Nat.le_trans (Nat.le_trans f925 K926.1) E929.1)
      have f933 := (Nat.le_trans f925 K926.1)
      have g934 := Nat.le_trans f933 (Nat.le_of_eq g929.symm)
      obtain ⟨_, _, ⟨T935, L935, k935, n935⟩, -, X935, ⟨Lc935, hQ935, l935, y935, z935⟩, st935⟩ := X929.specialBack hx (y := xm31) rfl hown926 (mvT hZ926 (tw43 hw)) (mvT hZ926 (tw44 hw)) (mvT hZ926 (tw45 hw)) (by decide) (backOf (W := 1) (rm_ObjectRef_new_0 l Z a0 hw [] b929 uu2 uu57 h929 n0 f932 A929 f930 g934 f931) hZ926 (tw45 hw) (tw42 hw) (by decide) (by decide)) (g := (mkF m 34 #[vi p1, vi p2, vi p3, .val cv0, .val cv3, vr uu2, vr uu57, .unset, .unset, .unset] [(.ref uu57), (.ref uu2), (.ref b929), (.ref b929)])) rfl (by rw [hml]; rfl) (Steps.refl _) (a := b929) (argsL := [(.ref uu2), (.ref uu57)]) (rest := [(.ref b929)]) (lenOf pd_5 rfl) rfl (Nat.le_of_eq rfl) (hb hby at_34) (fun _ _ => ⟨rfl, e929, (by decide : 10 + 0 ≤ _), (by decide : 24 + 0 ≤ _)⟩)
      dsimp only [Pt.U, Pt.locs, Pt.cells, Pt.slots] at X935 l935 y935 z935 st935 hQ935
      subst l935 y935 z935
      obtain ⟨rfl, N935q, K935, P935_0, P935_1⟩ := hQ935
      have N936 := Fr.app N927 N935q
      refine GoH.step (fun _ k => st935.trans (XS.astore X935.here hx rfl (hb hby at_37) rfl rfl (l' := #[vi p1, vi p2, vi p3, .val cv0, .val cv3, vr uu2, vr uu57, vr b929, .unset, .unset]) rfl (XS.aload X935.here hx rfl (hb hby at_39) rfl rfl k))) ?_
      show GoH p e below s _ _ _ T935 (mkF m 41 #[vi p1, vi p2, vi p3, .val cv0, .val cv3, vr uu2, vr uu57, vr b929, .unset, .unset] [(.ref b929)])
      have f937 := (((f924.keep K926 all0).ext E929).keep K935 (allS g934 all0))
      have f938 := (Nat.le_trans f932 K935.1)
      have f939 := (((P57_1.keep K926).ext E929).keep K935)
      have f940 := (P57_1.keep K926)
      have ne941 : uu2 ≠ b929 := Nat.ne_of_lt (Nat.lt_of_lt_of_le f940.lt (Nat.le_of_eq g929.symm))
      have f942 := (((P57_3.keep K926 nin0).ext E929).keep K935 (ninS ne941 nin0))
      have f943 := (P57_4.keep K926 nin0)
      have ne944 : uu6 ≠ b929 := Nat.ne_of_lt (Nat.lt_of_lt_of_le f943.lt (Nat.le_of_eq g929.symm))
      have f945 := (((P57_4.keep K926 nin0).ext E929).keep K935 (ninS ne944 nin0))
      have f946 := (((P57_2.keep K926 nin0).ext E929).keep K935 (ninS ne941 nin0))
      have f947 := ((P926_1.ext E929).keep K935)
      have ne948 : uu57 ≠ b929 := Nat.ne_of_lt (Nat.lt_of_lt_of_le P926_1.lt (Nat.le_of_eq g929.symm))
      have f949 := ((P926_3.ext E929).keep K935 (ninS ne948 nin0))
      have ne950 : uu58 ≠ b929 := Nat.ne_of_lt (Nat.lt_of_lt_of_le P926_5.lt (Nat.le_of_eq g929.symm))
      have f951 := ((P926_5.ext E929).keep K935 (ninS ne950 nin0))
      have f952 := ((P926_2.ext E929).keep K935 (ninS ne948 nin0))
      have f954 := (own_chK (own_chE f928 E929) K935 (sfS (Safe.exa hZ926.alike A929 (by decide) (by decide)) sf0))
      have f955 := (A929.keep K935)
      obtain ⟨cq953, kq953, q953a, q953b, q953c⟩ := isOf hZ926 rfl f955
      obtain ⟨_, _, ⟨T953, L953, k953, n953⟩, -, X953s, hs953, hg953, ⟨Lc953, hQ953, l953, y953, z953, ch953⟩, st953⟩ := X935.virtualBackS hx (y := xm21) (z := xm21) hown926 (mvT hZ926 (tw56 hw)) (mvT hZ926 (tw57 hw)) (notFace_of_selects (args := #[]) (mvT hZ926 (tw59 hw))) (mvT hZ926 (tw59 hw)) (mvT hZ926 (tw58 hw)) (by decide) (backOfSH (W := 0) (rm_ObjectRef_toString_0 l Z a0 hw [] b929 cs uu2 uu6 kb13_41_49_57 ci0 ([]) uu57 uu58 uu59 ci3 ([(.int (nar .byte ((nar .char (own_ch p2 ci0)).toInt8.toInt32))), (.int (nar .byte ((nar .char (own_ch p2 ci1)).toInt8.toInt32))), (.int (nar .byte ((nar .char (own_ch p2 ci2)).toInt8.toInt32)))]) T935.heap n0 f938 Z_S_COMPACT_STRINGS f937 hcs P935_0 f939 f942 f945 f946 (by decide) (by decide) (Nat.le_of_ble_eq_true rfl) (Nat.le_of_ble_eq_true rfl) (Nat.le_of_ble_eq_true rfl) (by decide) (by decide) (Nat.le_of_ble_eq_true rfl) (Nat.le_of_ble_eq_true rfl) P935_1 f947 f949 f951 f952 (by decide) (by decide) (by decide) (Nat.le_of_ble_eq_true rfl) (Nat.le_of_ble_eq_true rfl) (Nat.le_of_ble_eq_true rfl) (by decide) (by decide) (by decide) (Nat.le_of_ble_eq_true rfl) (by decide) (Nat.le_of_ble_eq_true rfl) (Nat.le_of_ble_eq_true rfl) (Nat.le_of_ble_eq_true rfl)) hZ926 (tw60 hw) (tw42 hw) (by decide) (by decide) (own_EW hw) f954.1) q953a q953c (g := (mkF m 41 #[vi p1, vi p2, vi p3, .val cv0, .val cv3, vr uu2, vr uu57, vr b929, .unset, .unset] [(.ref b929)])) rfl (by rw [hml]; rfl) (Steps.refl _) (argsL := []) (rest := []) (lenOf pd_21 rfl) rfl (Nat.le_of_eq rfl) (hb hby at_41) (fun _ _ => ⟨rfl, rfl, (by decide : 10 + 6 ≤ _), (by decide : 24 + 48 ≤ _)⟩)
      dsimp only [Pt.U, Pt.locs, Pt.cells, Pt.slots] at X953s hs953 hg953 l953 y953 z953 st953 hQ953 ch953
      subst l953 y953 z953
      have f956 := (Nat.le_trans (Nat.le_trans (Nat.le_refl _) E929.1) K935.1)
      obtain ⟨X953, hS953, hZ953, hown953⟩ := rebS hS926 (by exact f956) X953s hs953 hg953 hZ926 hown926
      obtain ⟨uu60, uu61, uu62, rfl, N953q, K953, P953_0, P953_1, P953_2, P953_3, P953_4, P953_5, P953_6⟩ := hQ953
      have N957 := Fr.app N936 N953q
      have f958 := f954.trans ch953
      refine GoH.step (fun _ k => st953.trans k) ?_
      show GoH p e below s _ _ _ T953 (mkF m 44 #[vi p1, vi p2, vi p3, .val cv0, .val cv3, vr uu2, vr uu57, vr b929, .unset, .unset] [(.ref uu60)])
      have f959 : Arv Z T953.heap uu61 uu62 .byte ci4 [cv58, (.int (nar .byte ((nar .char (own_ch p2 ci0)).toInt8.toInt32))), (.int (nar .byte ((nar .char (own_ch p2 ci1)).toInt8.toInt32))), (.int (nar .byte ((nar .char (own_ch p2 ci2)).toInt8.toInt32)))] cv0 := P953_5
      refine GoH.step (fun _ k => XS.astore X953.here hx rfl (hb hby at_44) rfl rfl (l' := #[vi p1, vi p2, vi p3, .val cv0, .val cv3, vr uu2, vr uu57, vr b929, vr uu60, .unset]) rfl (XS.iloadN X953.here hx rfl (hb hby at_46) rfl (XS.iconst X953.here hx rfl (hb hby at_47) (XS.iadd X953.here hx rfl (hb hby at_48) rfl (XS.iload X953.here hx rfl (hb hby at_49) rfl (XS.iadd X953.here hx rfl (hb hby at_51) rfl (XS.istore X953.here hx rfl (hb hby at_52) rfl (l' := #[vi p1, vi p2, vi p3, .val cv0, .val cv3, vr uu2, vr uu57, vr b929, vr uu60, .val cv4]) rfl (XS.aload X953.here hx rfl (hb hby at_54) rfl rfl k)))))))) ?_
      show GoH p e below s _ _ _ T953 (mkF m 56 #[vi p1, vi p2, vi p3, .val cv0, .val cv3, vr uu2, vr uu57, vr b929, vr uu60, .val cv4] [(.ref uu60)])
      have f960 := (f937.keep K953 all0)
      have f961 := (Nat.le_trans f938 K953.1)
      obtain ⟨cq962, kq962, q962a, q962b, q962c⟩ := isOf hZ953 rfl P953_1
      obtain ⟨_, _, ⟨T962, L962, k962, n962⟩, -, X962, ⟨Lc962, hQ962, l962, y962, z962⟩, st962⟩ := X953.virtualBack hx (y := xm19) (z := xm19) hown953 (mvT hZ953 (tw172 hw)) (mvT hZ953 (tw90 hw)) (notFace_of_selects (args := #[]) (mvT hZ953 (tw92 hw))) (mvT hZ953 (tw92 hw)) (mvT hZ953 (tw91 hw)) (by decide) (backOf (W := 0) (rm_String_length_0 l Z a0 hw [] uu60 uu61 uu62 ci4 ([cv58, (.int (nar .byte ((nar .char (own_ch p2 ci0)).toInt8.toInt32))), (.int (nar .byte ((nar .char (own_ch p2 ci1)).toInt8.toInt32))), (.int (nar .byte ((nar .char (own_ch p2 ci2)).toInt8.toInt32)))]) cs T953.heap n0 f961 P953_3 f959 P953_1 Z_S_COMPACT_STRINGS f960 hcs P953_2) hZ953 (tw93 hw) (tw6 hw) (by decide) (by decide)) q962a q962c (g := (mkF m 56 #[vi p1, vi p2, vi p3, .val cv0, .val cv3, vr uu2, vr uu57, vr b929, vr uu60, .val cv4] [(.ref uu60)])) rfl (by rw [hml]; rfl) (Steps.refl _) (argsL := []) (rest := []) (lenOf pd_8 rfl) rfl (Nat.le_of_eq rfl) (hb hby at_56) (fun _ _ => ⟨rfl, rfl, (by decide : 16 + 0 ≤ _), (by decide : 72 + 0 ≤ _)⟩)
      dsimp only [Pt.U, Pt.locs, Pt.cells, Pt.slots] at X962 l962 y962 z962 st962 hQ962
      subst l962 y962 z962
      obtain ⟨rfl, N962q, eq962⟩ := hQ962
      have N963 := Fr.app N957 N962q
      refine GoH.step (fun _ k => st962.trans (XS.iload X962.here hx rfl (hb hby at_59) rfl (XS.icmpYes X962.here hx rfl (pc0 := 61) (pc' := 66) rfl (hb hby at_61) rfl (teq (by decide)).1 (by decide) (by decide) (XS.aload X962.here hx rfl (hb hby at_66) rfl rfl (XS.iconst X962.here hx rfl (hb hby at_68) (XS.iload X962.here hx rfl (hb hby at_69) rfl (XS.iloadN X962.here hx rfl (hb hby at_71) rfl (XS.iloadN X962.here hx rfl (hb hby at_72) rfl (XS.iloadN X962.here hx rfl (hb hby at_73) rfl k))))))))) ?_
      show GoH p e below s _ _ _ T962 (mkF m 74 #[vi p1, vi p2, vi p3, .val cv0, .val cv3, vr uu2, vr uu57, vr b929, vr uu60, .val cv4] [(.int p2), (.int p1), cv0, cv4, cv0, (.ref uu60)])
      obtain ⟨_, _, ⟨T964, L964, k964, n964⟩, -, X964, ⟨Lc964, hQ964, l964, y964, z964⟩, st964⟩ := Jvm.LawKit.callS X962 hx (y := xm36) hown953 (mvT hZ953 (tw173 hw)) (mvT hZ953 (tw174 hw)) (mvT hZ953 (tw2 hw)) (mvT hZ953 (tw175 hw)) (by decide) (backOf (W := 0) (rm_ObjectRefToStringPinLaw_ok_0 l Z a0 hw [] uu60 ci0 ci4 ci0 p1 p2 cs uu61 uu62 ci4 ([cv58, (.int (nar .byte ((nar .char (own_ch p2 ci0)).toInt8.toInt32))), (.int (nar .byte ((nar .char (own_ch p2 ci1)).toInt8.toInt32))), (.int (nar .byte ((nar .char (own_ch p2 ci2)).toInt8.toInt32)))]) fv ci58 T953.heap n0 f961 (by decide) (by decide) rfl P953_1 Z_S_COMPACT_STRINGS f960 hcs P953_2 P953_3 f959 Z_S_SIOOBE_FORMATTER hfv rfl (by decide) (by decide) (by decide)) hZ953 (tw175 hw) (tw2 hw) (by decide) (by decide)) (g := (mkF m 74 #[vi p1, vi p2, vi p3, .val cv0, .val cv3, vr uu2, vr uu57, vr b929, vr uu60, .val cv4] [(.int p2), (.int p1), cv0, cv4, cv0, (.ref uu60)])) rfl (by rw [hml]; rfl) (argsL := [(.ref uu60), cv0, cv4, cv0, (.int p1), (.int p2)]) (rest := []) (lenOf pd_24 rfl) rfl (Nat.le_of_eq rfl) (hb hby at_74) (fun _ _ => ⟨rfl, eq962, (by decide : 16 + 0 ≤ _), (by decide : 72 + 0 ≤ _)⟩)
      dsimp only [Pt.U, Pt.locs, Pt.cells, Pt.slots] at X964 l964 y964 z964 st964 hQ964
      subst l964 y964 z964
      obtain ⟨rfl, N964q, eq964⟩ := hQ964
      have N965 := Fr.app N963 N964q
      refine GoH.step (fun _ k => st964 _ (XS.ifNo X964.here hx rfl (hb hby at_77) rfl ((if0 _ _).trans (feq (by decide)).1) (XS.aload X964.here hx rfl (hb hby at_80) rfl rfl (XS.iconst X964.here hx rfl (hb hby at_82) (XS.iload X964.here hx rfl (hb hby at_83) rfl (XS.iloadN X964.here hx rfl (hb hby at_85) rfl (XS.iloadN X964.here hx rfl (hb hby at_86) rfl (XS.iloadN X964.here hx rfl (hb hby at_87) rfl k)))))))) ?_
      show GoH p e below s _ _ _ T964 (mkF m 88 #[vi p1, vi p2, vi p3, .val cv0, .val cv3, vr uu2, vr uu57, vr b929, vr uu60, .val cv4] [(.int p2), (.int p1), cv0, cv4, cv1, (.ref uu60)])
      obtain ⟨_, _, ⟨T966, L966, k966, n966⟩, -, X966, ⟨Lc966, hQ966, l966, y966, z966⟩, st966⟩ := Jvm.LawKit.callS X964 hx (y := xm36) hown953 (mvT hZ953 (tw173 hw)) (mvT hZ953 (tw174 hw)) (mvT hZ953 (tw2 hw)) (mvT hZ953 (tw175 hw)) (by decide) (backOf (W := 0) (rm_ObjectRefToStringPinLaw_ok_2 l Z a0 hw [] uu60 ci1 ci4 ci0 p1 p2 uu61 uu62 ci4 ([cv58, (.int (nar .byte ((nar .char (own_ch p2 ci0)).toInt8.toInt32))), (.int (nar .byte ((nar .char (own_ch p2 ci1)).toInt8.toInt32))), (.int (nar .byte ((nar .char (own_ch p2 ci2)).toInt8.toInt32)))]) (nar .byte ((nar .char (own_ch p2 ci0)).toInt8.toInt32)) cs fv T953.heap n0 f961 (by decide) (by decide) (by decide) P953_1 P953_2 P953_3 f959 rfl Z_S_COMPACT_STRINGS Z_S_SIOOBE_FORMATTER f960 hcs hfv (by decide) (by decide) (own_rt p2 ci0)) hZ953 (tw175 hw) (tw2 hw) (by decide) (by decide)) (g := (mkF m 88 #[vi p1, vi p2, vi p3, .val cv0, .val cv3, vr uu2, vr uu57, vr b929, vr uu60, .val cv4] [(.int p2), (.int p1), cv0, cv4, cv1, (.ref uu60)])) rfl (by rw [hml]; rfl) (argsL := [(.ref uu60), cv1, cv4, cv0, (.int p1), (.int p2)]) (rest := []) (lenOf pd_24 rfl) rfl (Nat.le_of_eq rfl) (hb hby at_88) (fun _ _ => ⟨rfl, eq964, (by decide : 16 + 0 ≤ _), (by decide : 72 + 0 ≤ _)⟩)
      dsimp only [Pt.U, Pt.locs, Pt.cells, Pt.slots] at X966 l966 y966 z966 st966 hQ966
      subst l966 y966 z966
      obtain ⟨rfl, N966q, eq966⟩ := hQ966
      have N967 := Fr.app N965 N966q
      refine GoH.step (fun _ k => st966 _ (XS.ifNo X966.here hx rfl (hb hby at_91) rfl ((if0 _ _).trans (feq (by decide)).1) (XS.aload X966.here hx rfl (hb hby at_94) rfl rfl (XS.iconst X966.here hx rfl (hb hby at_96) (XS.iload X966.here hx rfl (hb hby at_97) rfl (XS.iloadN X966.here hx rfl (hb hby at_99) rfl (XS.iloadN X966.here hx rfl (hb hby at_100) rfl (XS.iloadN X966.here hx rfl (hb hby at_101) rfl k)))))))) ?_
      show GoH p e below s _ _ _ T966 (mkF m 102 #[vi p1, vi p2, vi p3, .val cv0, .val cv3, vr uu2, vr uu57, vr b929, vr uu60, .val cv4] [(.int p2), (.int p1), cv0, cv4, cv2, (.ref uu60)])
      obtain ⟨_, _, ⟨T968, L968, k968, n968⟩, -, X968, ⟨Lc968, hQ968, l968, y968, z968⟩, st968⟩ := Jvm.LawKit.callS X966 hx (y := xm36) hown953 (mvT hZ953 (tw173 hw)) (mvT hZ953 (tw174 hw)) (mvT hZ953 (tw2 hw)) (mvT hZ953 (tw175 hw)) (by decide) (backOf (W := 0) (rm_ObjectRefToStringPinLaw_ok_2 l Z a0 hw [] uu60 ci2 ci4 ci0 p1 p2 uu61 uu62 ci4 ([cv58, (.int (nar .byte ((nar .char (own_ch p2 ci0)).toInt8.toInt32))), (.int (nar .byte ((nar .char (own_ch p2 ci1)).toInt8.toInt32))), (.int (nar .byte ((nar .char (own_ch p2 ci2)).toInt8.toInt32)))]) (nar .byte ((nar .char (own_ch p2 ci1)).toInt8.toInt32)) cs fv T953.heap n0 f961 (by decide) (by decide) (by decide) P953_1 P953_2 P953_3 f959 rfl Z_S_COMPACT_STRINGS Z_S_SIOOBE_FORMATTER f960 hcs hfv (by decide) (by decide) (own_rt p2 ci1)) hZ953 (tw175 hw) (tw2 hw) (by decide) (by decide)) (g := (mkF m 102 #[vi p1, vi p2, vi p3, .val cv0, .val cv3, vr uu2, vr uu57, vr b929, vr uu60, .val cv4] [(.int p2), (.int p1), cv0, cv4, cv2, (.ref uu60)])) rfl (by rw [hml]; rfl) (argsL := [(.ref uu60), cv2, cv4, cv0, (.int p1), (.int p2)]) (rest := []) (lenOf pd_24 rfl) rfl (Nat.le_of_eq rfl) (hb hby at_102) (fun _ _ => ⟨rfl, eq966, (by decide : 16 + 0 ≤ _), (by decide : 72 + 0 ≤ _)⟩)
      dsimp only [Pt.U, Pt.locs, Pt.cells, Pt.slots] at X968 l968 y968 z968 st968 hQ968
      subst l968 y968 z968
      obtain ⟨rfl, N968q, eq968⟩ := hQ968
      have N969 := Fr.app N967 N968q
      refine GoH.step (fun _ k => st968 _ (XS.ifNo X968.here hx rfl (hb hby at_105) rfl ((if0 _ _).trans (feq (by decide)).1) (XS.aload X968.here hx rfl (hb hby at_108) rfl rfl (XS.iconst X968.here hx rfl (hb hby at_110) (XS.iload X968.here hx rfl (hb hby at_111) rfl (XS.iloadN X968.here hx rfl (hb hby at_113) rfl (XS.iloadN X968.here hx rfl (hb hby at_114) rfl (XS.iloadN X968.here hx rfl (hb hby at_115) rfl k)))))))) ?_
      show GoH p e below s _ _ _ T968 (mkF m 116 #[vi p1, vi p2, vi p3, .val cv0, .val cv3, vr uu2, vr uu57, vr b929, vr uu60, .val cv4] [(.int p2), (.int p1), cv0, cv4, cv3, (.ref uu60)])
      obtain ⟨_, _, ⟨T970, L970, k970, n970⟩, -, X970, ⟨Lc970, hQ970, l970, y970, z970⟩, st970⟩ := Jvm.LawKit.callS X968 hx (y := xm36) hown953 (mvT hZ953 (tw173 hw)) (mvT hZ953 (tw174 hw)) (mvT hZ953 (tw2 hw)) (mvT hZ953 (tw175 hw)) (by decide) (backOf (W := 0) (rm_ObjectRefToStringPinLaw_ok_2 l Z a0 hw [] uu60 ci3 ci4 ci0 p1 p2 uu61 uu62 ci4 ([cv58, (.int (nar .byte ((nar .char (own_ch p2 ci0)).toInt8.toInt32))), (.int (nar .byte ((nar .char (own_ch p2 ci1)).toInt8.toInt32))), (.int (nar .byte ((nar .char (own_ch p2 ci2)).toInt8.toInt32)))]) (nar .byte ((nar .char (own_ch p2 ci2)).toInt8.toInt32)) cs fv T953.heap n0 f961 (by decide) (by decide) (by decide) P953_1 P953_2 P953_3 f959 rfl Z_S_COMPACT_STRINGS Z_S_SIOOBE_FORMATTER f960 hcs hfv (by decide) (by decide) (own_rt p2 ci2)) hZ953 (tw175 hw) (tw2 hw) (by decide) (by decide)) (g := (mkF m 116 #[vi p1, vi p2, vi p3, .val cv0, .val cv3, vr uu2, vr uu57, vr b929, vr uu60, .val cv4] [(.int p2), (.int p1), cv0, cv4, cv3, (.ref uu60)])) rfl (by rw [hml]; rfl) (argsL := [(.ref uu60), cv3, cv4, cv0, (.int p1), (.int p2)]) (rest := []) (lenOf pd_24 rfl) rfl (Nat.le_of_eq rfl) (hb hby at_116) (fun _ _ => ⟨rfl, eq968, (by decide : 16 + 0 ≤ _), (by decide : 72 + 0 ≤ _)⟩)
      dsimp only [Pt.U, Pt.locs, Pt.cells, Pt.slots] at X970 l970 y970 z970 st970 hQ970
      subst l970 y970 z970
      obtain ⟨rfl, N970q, eq970⟩ := hQ970
      have N971 := Fr.app N969 N970q
      refine GoH.step (fun _ k => st970 _ (XS.ifNo X970.here hx rfl (hb hby at_119) rfl ((if0 _ _).trans (feq (by decide)).1) (XS.aload X970.here hx rfl (hb hby at_122) rfl rfl (XS.iconst X970.here hx rfl (hb hby at_124) (XS.iload X970.here hx rfl (hb hby at_125) rfl (XS.iloadN X970.here hx rfl (hb hby at_127) rfl (XS.iloadN X970.here hx rfl (hb hby at_128) rfl (XS.iloadN X970.here hx rfl (hb hby at_129) rfl k)))))))) ?_
      show GoH p e below s _ _ _ T970 (mkF m 130 #[vi p1, vi p2, vi p3, .val cv0, .val cv3, vr uu2, vr uu57, vr b929, vr uu60, .val cv4] [(.int p2), (.int p1), cv0, cv4, cv4, (.ref uu60)])
      obtain ⟨_, _, ⟨T972, L972, k972, n972⟩, -, X972, ⟨Lc972, hQ972, l972, y972, z972⟩, st972⟩ := Jvm.LawKit.callS X970 hx (y := xm36) hown953 (mvT hZ953 (tw173 hw)) (mvT hZ953 (tw174 hw)) (mvT hZ953 (tw2 hw)) (mvT hZ953 (tw175 hw)) (by decide) (backOf (W := 0) (rm_ObjectRefToStringPinLaw_ok_1 l Z a0 hw [] uu60 ci4 ci4 ci0 p1 p2 T953.heap n0 f961 (by decide)) hZ953 (tw175 hw) (tw2 hw) (by decide) (by decide)) (g := (mkF m 130 #[vi p1, vi p2, vi p3, .val cv0, .val cv3, vr uu2, vr uu57, vr b929, vr uu60, .val cv4] [(.int p2), (.int p1), cv0, cv4, cv4, (.ref uu60)])) rfl (by rw [hml]; rfl) (argsL := [(.ref uu60), cv4, cv4, cv0, (.int p1), (.int p2)]) (rest := []) (lenOf pd_24 rfl) rfl (Nat.le_of_eq rfl) (hb hby at_130) (fun _ _ => ⟨rfl, eq970, (by decide : 16 + 0 ≤ _), (by decide : 72 + 0 ≤ _)⟩)
      dsimp only [Pt.U, Pt.locs, Pt.cells, Pt.slots] at X972 l972 y972 z972 st972 hQ972
      subst l972 y972 z972
      obtain ⟨rfl, N972q, eq972⟩ := hQ972
      have N973 := Fr.app N971 N972q
      refine GoH.step (fun _ k => st972 _ (XS.ifNo X972.here hx rfl (hb hby at_133) rfl ((if0 _ _).trans (feq (by decide)).1) (XS.aload X972.here hx rfl (hb hby at_136) rfl rfl (XS.iconst X972.here hx rfl (hb hby at_138) (XS.iload X972.here hx rfl (hb hby at_139) rfl (XS.iloadN X972.here hx rfl (hb hby at_141) rfl (XS.iloadN X972.here hx rfl (hb hby at_142) rfl (XS.iloadN X972.here hx rfl (hb hby at_143) rfl k)))))))) ?_
      show GoH p e below s _ _ _ T972 (mkF m 144 #[vi p1, vi p2, vi p3, .val cv0, .val cv3, vr uu2, vr uu57, vr b929, vr uu60, .val cv4] [(.int p2), (.int p1), cv0, cv4, cv5, (.ref uu60)])
      obtain ⟨_, _, ⟨T974, L974, k974, n974⟩, -, X974, ⟨Lc974, hQ974, l974, y974, z974⟩, st974⟩ := Jvm.LawKit.callS X972 hx (y := xm36) hown953 (mvT hZ953 (tw173 hw)) (mvT hZ953 (tw174 hw)) (mvT hZ953 (tw2 hw)) (mvT hZ953 (tw175 hw)) (by decide) (backOf (W := 0) (rm_ObjectRefToStringPinLaw_ok_1 l Z a0 hw [] uu60 ci5 ci4 ci0 p1 p2 T953.heap n0 f961 (by decide)) hZ953 (tw175 hw) (tw2 hw) (by decide) (by decide)) (g := (mkF m 144 #[vi p1, vi p2, vi p3, .val cv0, .val cv3, vr uu2, vr uu57, vr b929, vr uu60, .val cv4] [(.int p2), (.int p1), cv0, cv4, cv5, (.ref uu60)])) rfl (by rw [hml]; rfl) (argsL := [(.ref uu60), cv5, cv4, cv0, (.int p1), (.int p2)]) (rest := []) (lenOf pd_24 rfl) rfl (Nat.le_of_eq rfl) (hb hby at_144) (fun _ _ => ⟨rfl, eq972, (by decide : 16 + 0 ≤ _), (by decide : 72 + 0 ≤ _)⟩)
      dsimp only [Pt.U, Pt.locs, Pt.cells, Pt.slots] at X974 l974 y974 z974 st974 hQ974
      subst l974 y974 z974
      obtain ⟨rfl, N974q, eq974⟩ := hQ974
      have N975 := Fr.app N973 N974q
      refine GoH.step (fun _ k => st974 _ (XS.ifNo X974.here hx rfl (hb hby at_147) rfl ((if0 _ _).trans (feq (by decide)).1) (XS.aload X974.here hx rfl (hb hby at_150) rfl rfl (XS.bipush X974.here hx rfl (hb hby at_152) (XS.iload X974.here hx rfl (hb hby at_154) rfl (XS.iloadN X974.here hx rfl (hb hby at_156) rfl (XS.iloadN X974.here hx rfl (hb hby at_157) rfl (XS.iloadN X974.here hx rfl (hb hby at_158) rfl k)))))))) ?_
      show GoH p e below s _ _ _ T974 (mkF m 159 #[vi p1, vi p2, vi p3, .val cv0, .val cv3, vr uu2, vr uu57, vr b929, vr uu60, .val cv4] [(.int p2), (.int p1), cv0, cv4, cv6, (.ref uu60)])
      obtain ⟨_, _, ⟨T976, L976, k976, n976⟩, -, X976, ⟨Lc976, hQ976, l976, y976, z976⟩, st976⟩ := Jvm.LawKit.callS X974 hx (y := xm36) hown953 (mvT hZ953 (tw173 hw)) (mvT hZ953 (tw174 hw)) (mvT hZ953 (tw2 hw)) (mvT hZ953 (tw175 hw)) (by decide) (backOf (W := 0) (rm_ObjectRefToStringPinLaw_ok_1 l Z a0 hw [] uu60 ci6 ci4 ci0 p1 p2 T953.heap n0 f961 (by decide)) hZ953 (tw175 hw) (tw2 hw) (by decide) (by decide)) (g := (mkF m 159 #[vi p1, vi p2, vi p3, .val cv0, .val cv3, vr uu2, vr uu57, vr b929, vr uu60, .val cv4] [(.int p2), (.int p1), cv0, cv4, cv6, (.ref uu60)])) rfl (by rw [hml]; rfl) (argsL := [(.ref uu60), cv6, cv4, cv0, (.int p1), (.int p2)]) (rest := []) (lenOf pd_24 rfl) rfl (Nat.le_of_eq rfl) (hb hby at_159) (fun _ _ => ⟨rfl, eq974, (by decide : 16 + 0 ≤ _), (by decide : 72 + 0 ≤ _)⟩)
      dsimp only [Pt.U, Pt.locs, Pt.cells, Pt.slots] at X976 l976 y976 z976 st976 hQ976
      subst l976 y976 z976
      obtain ⟨rfl, N976q, eq976⟩ := hQ976
      have N977 := Fr.app N975 N976q
      refine GoH.step (fun _ k => st976 _ (XS.ifNo X976.here hx rfl (hb hby at_162) rfl ((if0 _ _).trans (feq (by decide)).1) (XS.iconst X976.here hx rfl (hb hby at_165) (XS.goto X976.here hx rfl (pc0 := 166) (pc' := 170) rfl (hb hby at_166) (by decide) (by decide) k)))) ?_
      show GoH p e below s _ _ _ T976 (mkF m 170 #[vi p1, vi p2, vi p3, .val cv0, .val cv3, vr uu2, vr uu57, vr b929, vr uu60, .val cv4] [cv1])
      exact GoH.retN X976 hS953 hx hlk (t := .boolean) Bd.returns (by simp) (hb hby at_170) eq976 (Nat.le_refl _) ⟨rfl, N977⟩ (f958.trans (CHv.at X976 hZ953 (own_EW hw) f958.1)) (by decide) (by decide)
  · show GoH p e below s _ _ _ s₁ (mkF m 13 #[vi p1, vi p2, vi p3, .val cv1, vi rl, .unset, .unset, .unset, .unset, .unset] [cv1, (.int p1)])
    obtain ⟨_, _, ⟨T978, L978, k978, n978⟩, -, X978s, hs978, hg978, ⟨Lc978, hQ978, l978, y978, z978, ch978⟩, st978⟩ := callSS X0 hx (y := xm33) hown (mvT hZ (tw0 hw)) (mvT hZ (tw1 hw)) (mvT hZ (tw2 hw)) (mvT hZ (tw3 hw)) (by decide) (backOfSH (W := 0) (rm_ObjectRefToStringPinLaw_make_1 l Z a0 hw [] p1 cs h0 n0 Z0 Z_S_COMPACT_STRINGS O0 hcs (own_c2 p1 ci0)) hZ (tw3 hw) (tw2 hw) (by decide) (by decide) (own_EW hw) CH0.1) (g := (mkF m 13 #[vi p1, vi p2, vi p3, .val cv1, vi rl, .unset, .unset, .unset, .unset, .unset] [cv1, (.int p1)])) rfl (by rw [hml]; rfl) (argsL := [(.int p1), cv1]) (rest := []) (lenOf pd_3 rfl) rfl (Nat.le_of_eq rfl) (hb hby at_13) (fun _ _ => ⟨rfl, e0, (by decide : 0 + 3 ≤ _), (by decide : 0 + 6 ≤ _)⟩)
    dsimp only [Pt.U, Pt.locs, Pt.cells, Pt.slots] at X978s hs978 hg978 l978 y978 z978 st978 hQ978 ch978
    subst l978 y978 z978
    obtain ⟨X978, hS978, hZ978, hown978⟩ := rebS hS0 (by rw [e0]; exact (Nat.le_refl _)) X978s hs978 hg978 hZ hown
    obtain ⟨uu63, uu64, uu65, rfl, N978q, K978, P978_0, P978_1, P978_2, P978_3, P978_4, P978_5, P978_6⟩ := hQ978
    have N979 := Fr.app N0 N978q
    have f980 := CH0.trans ch978
    refine GoH.step (fun _ k => st978.trans (XS.astore X978.here hx rfl (hb hby at_16) rfl rfl (l' := #[vi p1, vi p2, vi p3, .val cv1, vi rl, vr uu63, .unset, .unset, .unset, .unset]) rfl (XS.iloadN X978.here hx rfl (hb hby at_18) rfl (XS.iload X978.here hx rfl (hb hby at_19) rfl k)))) ?_
    show GoH p e below s _ _ _ T978 (mkF m 21 #[vi p1, vi p2, vi p3, .val cv1, vi rl, vr uu63, .unset, .unset, .unset, .unset] [(.int rl), (.int p2)])
    rcases hrl with rfl | rfl | rfl | rfl
    · show GoH p e below s _ _ _ T978 (mkF m 21 #[vi p1, vi p2, vi p3, .val cv1, .val cv0, vr uu63, .unset, .unset, .unset, .unset] [cv0, (.int p2)])
      have f981 := (Nat.le_trans Z0 K978.1)
      obtain ⟨_, _, ⟨T982, L982, k982, n982⟩, -, X982s, hs982, hg982, ⟨Lc982, hQ982, l982, y982, z982, ch982⟩, st982⟩ := callSS X978 hx (y := xm33) hown978 (mvT hZ978 (tw0 hw)) (mvT hZ978 (tw1 hw)) (mvT hZ978 (tw2 hw)) (mvT hZ978 (tw3 hw)) (by decide) (backOfSH (W := 0) (rm_ObjectRefToStringPinLaw_make_0 l Z a0 hw [] p2 T978.heap n0 f981) hZ978 (tw3 hw) (tw2 hw) (by decide) (by decide) (own_EW hw) f980.1) (g := (mkF m 21 #[vi p1, vi p2, vi p3, .val cv1, .val cv0, vr uu63, .unset, .unset, .unset, .unset] [cv0, (.int p2)])) rfl (by rw [hml]; rfl) (argsL := [(.int p2), cv0]) (rest := []) (lenOf pd_3 rfl) rfl (Nat.le_of_eq rfl) (hb hby at_21) (fun _ _ => ⟨rfl, rfl, (by decide : 3 + 6 ≤ _), (by decide : 6 + 12 ≤ _)⟩)
      dsimp only [Pt.U, Pt.locs, Pt.cells, Pt.slots] at X982s hs982 hg982 l982 y982 z982 st982 hQ982 ch982
      subst l982 y982 z982
      obtain ⟨X982, hS982, hZ982, hown982⟩ := rebS hS978 (by exact (Nat.le_refl _)) X982s hs982 hg982 hZ978 hown978
      obtain ⟨uu66, uu67, kb13_41_49_982, rfl, N982q, K982, P982_0, P982_1, P982_2, P982_3, P982_4⟩ := hQ982
      have N983 := Fr.app N979 N982q
      have f984 := f980.trans ch982
      refine GoH.step (fun _ k => st982.trans (XS.astore X982.here hx rfl (hb hby at_24) rfl rfl (l' := #[vi p1, vi p2, vi p3, .val cv1, .val cv0, vr uu63, vr uu66, .unset, .unset, .unset]) rfl k)) ?_
      show GoH p e below s _ _ _ T982 (mkF m 26 #[vi p1, vi p2, vi p3, .val cv1, .val cv0, vr uu63, vr uu66, .unset, .unset, .unset] [])
      obtain ⟨T985, h985, X985, e985, E985, A985, D985, -, st985⟩ := newO X982 hx hZ982 hown982 (tw40 hw) (tw41 hw) (tw42 hw) rfl (g := (mkF m 26 #[vi p1, vi p2, vi p3, .val cv1, .val cv0, vr uu63, vr uu66, .unset, .unset, .unset] [])) rfl (hb hby at_26) (by decide) (by decide)
      obtain ⟨b985, g985⟩ : ∃ z, z = T982.heap.size := ⟨_, rfl⟩
      rw [← g985] at A985 D985 st985
      have f986 : Fld Z h985 b985 xs3 "type" xs21 .null := D985 (Or.inr (tw53 hw)) (ty := (.object xs25)) (by decide)
      have f987 : Fld Z h985 b985 xs3 "id" xs21 .null := D985 (Or.inr (tw55 hw)) (ty := (.object xs25)) (by decide)
      refine GoH.step (fun _ k => st985 _ (XS.dup X985.here hx rfl (hb hby at_29) rfl rfl (XS.aload X985.here hx rfl (hb hby at_30) rfl rfl (XS.aload X985.here hx rfl (hb hby at_32) rfl rfl k)))) ?_
      show GoH p e below s _ _ _ T985 (mkF m 34 #[vi p1, vi p2, vi p3, .val cv1, .val cv0, vr uu63, vr uu66, .unset, .unset, .unset] [(.ref uu66), (.ref uu63), (.ref b985), (.ref b985)])
      have f988 := (Nat.le_trans (Nat.le_trans f981 K982.1) E985.1)
      have f989 := (Nat.le_trans f981 K982.1)
      have g990 := Nat.le_trans f989 (Nat.le_of_eq g985.symm)
      obtain ⟨_, _, ⟨T991, L991, k991, n991⟩, -, X991, ⟨Lc991, hQ991, l991, y991, z991⟩, st991⟩ := X985.specialBack hx (y := xm31) rfl hown982 (mvT hZ982 (tw43 hw)) (mvT hZ982 (tw44 hw)) (mvT hZ982 (tw45 hw)) (by decide) (backOf (W := 1) (rm_ObjectRef_new_0 l Z a0 hw [] b985 uu63 uu66 h985 n0 f988 A985 f986 g990 f987) hZ982 (tw45 hw) (tw42 hw) (by decide) (by decide)) (g := (mkF m 34 #[vi p1, vi p2, vi p3, .val cv1, .val cv0, vr uu63, vr uu66, .unset, .unset, .unset] [(.ref uu66), (.ref uu63), (.ref b985), (.ref b985)])) rfl (by rw [hml]; rfl) (Steps.refl _) (a := b985) (argsL := [(.ref uu63), (.ref uu66)]) (rest := [(.ref b985)]) (lenOf pd_5 rfl) rfl (Nat.le_of_eq rfl) (hb hby at_34) (fun _ _ => ⟨rfl, e985, (by decide : 10 + 0 ≤ _), (by decide : 20 + 0 ≤ _)⟩)
      dsimp only [Pt.U, Pt.locs, Pt.cells, Pt.slots] at X991 l991 y991 z991 st991 hQ991
      subst l991 y991 z991
      obtain ⟨rfl, N991q, K991, P991_0, P991_1⟩ := hQ991
      have N992 := Fr.app N983 N991q
      refine GoH.step (fun _ k => st991.trans (XS.astore X991.here hx rfl (hb hby at_37) rfl rfl (l' := #[vi p1, vi p2, vi p3, .val cv1, .val cv0, vr uu63, vr uu66, vr b985, .unset, .unset]) rfl (XS.aload X991.here hx rfl (hb hby at_39) rfl rfl k))) ?_
      show GoH p e below s _ _ _ T991 (mkF m 41 #[vi p1, vi p2, vi p3, .val cv1, .val cv0, vr uu63, vr uu66, vr b985, .unset, .unset] [(.ref b985)])
      have f993 := ((((O0.keep K978 all0).keep K982 all0).ext E985).keep K991 (allS g990 all0))
      have f994 := (Nat.le_trans f988 K991.1)
      have f995 := (((P978_1.keep K982).ext E985).keep K991)
      have f996 := (P978_1.keep K982)
      have ne997 : uu63 ≠ b985 := Nat.ne_of_lt (Nat.lt_of_lt_of_le f996.lt (Nat.le_of_eq g985.symm))
      have f998 := (((P978_3.keep K982 nin0).ext E985).keep K991 (ninS ne997 nin0))
      have f999 := (P978_5.keep K982 nin0)
      have ne1000 : uu64 ≠ b985 := Nat.ne_of_lt (Nat.lt_of_lt_of_le f999.lt (Nat.le_of_eq g985.symm))
      have f1001 := (((P978_5.keep K982 nin0).ext E985).keep K991 (ninS ne1000 nin0))
      have f1002 := (((P978_2.keep K982 nin0).ext E985).keep K991 (ninS ne997 nin0))
      have f1003 := ((P982_1.ext E985).keep K991)
      have ne1004 : uu66 ≠ b985 := Nat.ne_of_lt (Nat.lt_of_lt_of_le P982_1.lt (Nat.le_of_eq g985.symm))
      have f1005 := ((P982_3.ext E985).keep K991 (ninS ne1004 nin0))
      have ne1006 : uu67 ≠ b985 := Nat.ne_of_lt (Nat.lt_of_lt_of_le P982_4.lt (Nat.le_of_eq g985.symm))
      have f1007 := ((P982_4.ext E985).keep K991 (ninS ne1006 nin0))
      have f1008 := ((P982_2.ext E985).keep K991 (ninS ne1004 nin0))
      have f1010 := (own_chK (own_chE f984 E985) K991 (sfS (Safe.exa hZ982.alike A985 (by decide) (by decide)) sf0))
      have f1011 := (A985.keep K991)
      obtain ⟨cq1009, kq1009, q1009a, q1009b, q1009c⟩ := isOf hZ982 rfl f1011
      obtain ⟨_, _, ⟨T1009, L1009, k1009, n1009⟩, -, X1009s, hs1009, hg1009, ⟨Lc1009, hQ1009, l1009, y1009, z1009, ch1009⟩, st1009⟩ := X991.virtualBackS hx (y := xm21) (z := xm21) hown982 (mvT hZ982 (tw56 hw)) (mvT hZ982 (tw57 hw)) (notFace_of_selects (args := #[]) (mvT hZ982 (tw59 hw))) (mvT hZ982 (tw59 hw)) (mvT hZ982 (tw58 hw)) (by decide) (backOfSH (W := 0) (rm_ObjectRef_toString_0 l Z a0 hw [] b985 cs uu63 uu64 uu65 ci1 ([(.int (nar .byte ((nar .char (own_ch p1 ci0)).toInt8.toInt32)))]) uu66 uu67 kb13_41_49_982 ci0 ([]) T991.heap n0 f994 Z_S_COMPACT_STRINGS f993 hcs P991_0 f995 f998 f1001 f1002 (by decide) (by decide) (Nat.le_of_ble_eq_true rfl) (Nat.le_of_ble_eq_true rfl) (Nat.le_of_ble_eq_true rfl) (by decide) (by decide) (Nat.le_of_ble_eq_true rfl) (Nat.le_of_ble_eq_true rfl) P991_1 f1003 f1005 f1007 f1008 (by decide) (by decide) (by decide) (Nat.le_of_ble_eq_true rfl) (Nat.le_of_ble_eq_true rfl) (Nat.le_of_ble_eq_true rfl) (by decide) (by decide) (by decide) (Nat.le_of_ble_eq_true rfl) (by decide) (Nat.le_of_ble_eq_true rfl) (Nat.le_of_ble_eq_true rfl) (Nat.le_of_ble_eq_true rfl)) hZ982 (tw60 hw) (tw42 hw) (by decide) (by decide) (own_EW hw) f1010.1) q1009a q1009c (g := (mkF m 41 #[vi p1, vi p2, vi p3, .val cv1, .val cv0, vr uu63, vr uu66, vr b985, .unset, .unset] [(.ref b985)])) rfl (by rw [hml]; rfl) (Steps.refl _) (argsL := []) (rest := []) (lenOf pd_21 rfl) rfl (Nat.le_of_eq rfl) (hb hby at_41) (fun _ _ => ⟨rfl, rfl, (by decide : 10 + 6 ≤ _), (by decide : 20 + 48 ≤ _)⟩)
      dsimp only [Pt.U, Pt.locs, Pt.cells, Pt.slots] at X1009s hs1009 hg1009 l1009 y1009 z1009 st1009 hQ1009 ch1009
      subst l1009 y1009 z1009
      have f1012 := (Nat.le_trans (Nat.le_trans (Nat.le_refl _) E985.1) K991.1)
      obtain ⟨X1009, hS1009, hZ1009, hown1009⟩ := rebS hS982 (by exact f1012) X1009s hs1009 hg1009 hZ982 hown982
      obtain ⟨uu45, uu46, uu47, rfl, N1009q, K1009, P1009_0, P1009_1, P1009_2, P1009_3, P1009_4, P1009_5, P1009_6⟩ := hQ1009
      have N1013 := Fr.app N992 N1009q
      have f1014 := f1010.trans ch1009
      refine GoH.step (fun _ k => st1009.trans k) ?_
      show GoH p e below s _ _ _ T1009 (mkF m 44 #[vi p1, vi p2, vi p3, .val cv1, .val cv0, vr uu63, vr uu66, vr b985, .unset, .unset] [(.ref uu45)])
      have f1015 : Arv Z T1009.heap uu46 uu47 .byte ci2 [(.int (nar .byte ((nar .char (own_ch p1 ci0)).toInt8.toInt32))), cv58] cv0 := P1009_5
      refine GoH.step (fun _ k => XS.astore X1009.here hx rfl (hb hby at_44) rfl rfl (l' := #[vi p1, vi p2, vi p3, .val cv1, .val cv0, vr uu63, vr uu66, vr b985, vr uu45, .unset]) rfl (XS.iloadN X1009.here hx rfl (hb hby at_46) rfl (XS.iconst X1009.here hx rfl (hb hby at_47) (XS.iadd X1009.here hx rfl (hb hby at_48) rfl (XS.iload X1009.here hx rfl (hb hby at_49) rfl (XS.iadd X1009.here hx rfl (hb hby at_51) rfl (XS.istore X1009.here hx rfl (hb hby at_52) rfl (l' := #[vi p1, vi p2, vi p3, .val cv1, .val cv0, vr uu63, vr uu66, vr b985, vr uu45, .val cv2]) rfl (XS.aload X1009.here hx rfl (hb hby at_54) rfl rfl k)))))))) ?_
      show GoH p e below s _ _ _ T1009 (mkF m 56 #[vi p1, vi p2, vi p3, .val cv1, .val cv0, vr uu63, vr uu66, vr b985, vr uu45, .val cv2] [(.ref uu45)])
      have f1016 := (f993.keep K1009 all0)
      have f1017 := (Nat.le_trans f994 K1009.1)
      obtain ⟨cq1018, kq1018, q1018a, q1018b, q1018c⟩ := isOf hZ1009 rfl P1009_1
      obtain ⟨_, _, ⟨T1018, L1018, k1018, n1018⟩, -, X1018, ⟨Lc1018, hQ1018, l1018, y1018, z1018⟩, st1018⟩ := X1009.virtualBack hx (y := xm19) (z := xm19) hown1009 (mvT hZ1009 (tw172 hw)) (mvT hZ1009 (tw90 hw)) (notFace_of_selects (args := #[]) (mvT hZ1009 (tw92 hw))) (mvT hZ1009 (tw92 hw)) (mvT hZ1009 (tw91 hw)) (by decide) (backOf (W := 0) (rm_String_length_0 l Z a0 hw [] uu45 uu46 uu47 ci2 ([(.int (nar .byte ((nar .char (own_ch p1 ci0)).toInt8.toInt32))), cv58]) cs T1009.heap n0 f1017 P1009_3 f1015 P1009_1 Z_S_COMPACT_STRINGS f1016 hcs P1009_2) hZ1009 (tw93 hw) (tw6 hw) (by decide) (by decide)) q1018a q1018c (g := (mkF m 56 #[vi p1, vi p2, vi p3, .val cv1, .val cv0, vr uu63, vr uu66, vr b985, vr uu45, .val cv2] [(.ref uu45)])) rfl (by rw [hml]; rfl) (Steps.refl _) (argsL := []) (rest := []) (lenOf pd_8 rfl) rfl (Nat.le_of_eq rfl) (hb hby at_56) (fun _ _ => ⟨rfl, rfl, (by decide : 16 + 0 ≤ _), (by decide : 68 + 0 ≤ _)⟩)
      dsimp only [Pt.U, Pt.locs, Pt.cells, Pt.slots] at X1018 l1018 y1018 z1018 st1018 hQ1018
      subst l1018 y1018 z1018
      obtain ⟨rfl, N1018q, eq1018⟩ := hQ1018
      have N1019 := Fr.app N1013 N1018q
      refine GoH.step (fun _ k => st1018.trans (XS.iload X1018.here hx rfl (hb hby at_59) rfl (XS.icmpYes X1018.here hx rfl (pc0 := 61) (pc' := 66) rfl (hb hby at_61) rfl (teq (by decide)).1 (by decide) (by decide) (XS.aload X1018.here hx rfl (hb hby at_66) rfl rfl (XS.iconst X1018.here hx rfl (hb hby at_68) (XS.iload X1018.here hx rfl (hb hby at_69) rfl (XS.iloadN X1018.here hx rfl (hb hby at_71) rfl (XS.iloadN X1018.here hx rfl (hb hby at_72) rfl (XS.iloadN X1018.here hx rfl (hb hby at_73) rfl k))))))))) ?_
      show GoH p e below s _ _ _ T1018 (mkF m 74 #[vi p1, vi p2, vi p3, .val cv1, .val cv0, vr uu63, vr uu66, vr b985, vr uu45, .val cv2] [(.int p2), (.int p1), cv1, cv2, cv0, (.ref uu45)])
      obtain ⟨_, _, ⟨T1036, L1036, k1036, n1036⟩, -, X1036, ⟨Lc1036, hQ1036, l1036, y1036, z1036⟩, st1036⟩ := Jvm.LawKit.callS X1018 hx (y := xm36) hown1009 (mvT hZ1009 (tw173 hw)) (mvT hZ1009 (tw174 hw)) (mvT hZ1009 (tw2 hw)) (mvT hZ1009 (tw175 hw)) (by decide) (backOf (W := 0) (rm_ObjectRefToStringPinLaw_ok_3 l Z a0 hw [] uu45 ci0 ci2 ci1 p1 p2 uu46 uu47 ci2 ([(.int (nar .byte ((nar .char (own_ch p1 ci0)).toInt8.toInt32))), cv58]) (nar .byte ((nar .char (own_ch p1 ci0)).toInt8.toInt32)) cs fv T1009.heap n0 f1017 (by decide) (by decide) P1009_1 P1009_2 P1009_3 f1015 rfl Z_S_COMPACT_STRINGS Z_S_SIOOBE_FORMATTER f1016 hcs hfv (by decide) (by decide) (own_rt p1 ci0)) hZ1009 (tw175 hw) (tw2 hw) (by decide) (by decide)) (g := (mkF m 74 #[vi p1, vi p2, vi p3, .val cv1, .val cv0, vr uu63, vr uu66, vr b985, vr uu45, .val cv2] [(.int p2), (.int p1), cv1, cv2, cv0, (.ref uu45)])) rfl (by rw [hml]; rfl) (argsL := [(.ref uu45), cv0, cv2, cv1, (.int p1), (.int p2)]) (rest := []) (lenOf pd_24 rfl) rfl (Nat.le_of_eq rfl) (hb hby at_74) (fun _ _ => ⟨rfl, eq1018, (by decide : 16 + 0 ≤ _), (by decide : 68 + 0 ≤ _)⟩)
      dsimp only [Pt.U, Pt.locs, Pt.cells, Pt.slots] at X1036 l1036 y1036 z1036 st1036 hQ1036
      subst l1036 y1036 z1036
      obtain ⟨rfl, N1036q, eq1036⟩ := hQ1036
      have N1037 := Fr.app N1019 N1036q
      refine GoH.step (fun _ k => st1036 _ (XS.ifNo X1036.here hx rfl (hb hby at_77) rfl ((if0 _ _).trans (feq (by decide)).1) (XS.aload X1036.here hx rfl (hb hby at_80) rfl rfl (XS.iconst X1036.here hx rfl (hb hby at_82) (XS.iload X1036.here hx rfl (hb hby at_83) rfl (XS.iloadN X1036.here hx rfl (hb hby at_85) rfl (XS.iloadN X1036.here hx rfl (hb hby at_86) rfl (XS.iloadN X1036.here hx rfl (hb hby at_87) rfl k)))))))) ?_
      show GoH p e below s _ _ _ T1036 (mkF m 88 #[vi p1, vi p2, vi p3, .val cv1, .val cv0, vr uu63, vr uu66, vr b985, vr uu45, .val cv2] [(.int p2), (.int p1), cv1, cv2, cv1, (.ref uu45)])
      obtain ⟨_, _, ⟨T1038, L1038, k1038, n1038⟩, -, X1038, ⟨Lc1038, hQ1038, l1038, y1038, z1038⟩, st1038⟩ := Jvm.LawKit.callS X1036 hx (y := xm36) hown1009 (mvT hZ1009 (tw173 hw)) (mvT hZ1009 (tw174 hw)) (mvT hZ1009 (tw2 hw)) (mvT hZ1009 (tw175 hw)) (by decide) (backOf (W := 0) (rm_ObjectRefToStringPinLaw_ok_0 l Z a0 hw [] uu45 ci1 ci2 ci1 p1 p2 cs uu46 uu47 ci2 ([(.int (nar .byte ((nar .char (own_ch p1 ci0)).toInt8.toInt32))), cv58]) fv ci58 T1009.heap n0 f1017 (by decide) (by decide) rfl P1009_1 Z_S_COMPACT_STRINGS f1016 hcs P1009_2 P1009_3 f1015 Z_S_SIOOBE_FORMATTER hfv rfl (by decide) (by decide) (by decide)) hZ1009 (tw175 hw) (tw2 hw) (by decide) (by decide)) (g := (mkF m 88 #[vi p1, vi p2, vi p3, .val cv1, .val cv0, vr uu63, vr uu66, vr b985, vr uu45, .val cv2] [(.int p2), (.int p1), cv1, cv2, cv1, (.ref uu45)])) rfl (by rw [hml]; rfl) (argsL := [(.ref uu45), cv1, cv2, cv1, (.int p1), (.int p2)]) (rest := []) (lenOf pd_24 rfl) rfl (Nat.le_of_eq rfl) (hb hby at_88) (fun _ _ => ⟨rfl, eq1036, (by decide : 16 + 0 ≤ _), (by decide : 68 + 0 ≤ _)⟩)
      dsimp only [Pt.U, Pt.locs, Pt.cells, Pt.slots] at X1038 l1038 y1038 z1038 st1038 hQ1038
      subst l1038 y1038 z1038
      obtain ⟨rfl, N1038q, eq1038⟩ := hQ1038
      have N1039 := Fr.app N1037 N1038q
      refine GoH.step (fun _ k => st1038 _ (XS.ifNo X1038.here hx rfl (hb hby at_91) rfl ((if0 _ _).trans (feq (by decide)).1) (XS.aload X1038.here hx rfl (hb hby at_94) rfl rfl (XS.iconst X1038.here hx rfl (hb hby at_96) (XS.iload X1038.here hx rfl (hb hby at_97) rfl (XS.iloadN X1038.here hx rfl (hb hby at_99) rfl (XS.iloadN X1038.here hx rfl (hb hby at_100) rfl (XS.iloadN X1038.here hx rfl (hb hby at_101) rfl k)))))))) ?_
      show GoH p e below s _ _ _ T1038 (mkF m 102 #[vi p1, vi p2, vi p3, .val cv1, .val cv0, vr uu63, vr uu66, vr b985, vr uu45, .val cv2] [(.int p2), (.int p1), cv1, cv2, cv2, (.ref uu45)])
      obtain ⟨_, _, ⟨T1040, L1040, k1040, n1040⟩, -, X1040, ⟨Lc1040, hQ1040, l1040, y1040, z1040⟩, st1040⟩ := Jvm.LawKit.callS X1038 hx (y := xm36) hown1009 (mvT hZ1009 (tw173 hw)) (mvT hZ1009 (tw174 hw)) (mvT hZ1009 (tw2 hw)) (mvT hZ1009 (tw175 hw)) (by decide) (backOf (W := 0) (rm_ObjectRefToStringPinLaw_ok_1 l Z a0 hw [] uu45 ci2 ci2 ci1 p1 p2 T1009.heap n0 f1017 (by decide)) hZ1009 (tw175 hw) (tw2 hw) (by decide) (by decide)) (g := (mkF m 102 #[vi p1, vi p2, vi p3, .val cv1, .val cv0, vr uu63, vr uu66, vr b985, vr uu45, .val cv2] [(.int p2), (.int p1), cv1, cv2, cv2, (.ref uu45)])) rfl (by rw [hml]; rfl) (argsL := [(.ref uu45), cv2, cv2, cv1, (.int p1), (.int p2)]) (rest := []) (lenOf pd_24 rfl) rfl (Nat.le_of_eq rfl) (hb hby at_102) (fun _ _ => ⟨rfl, eq1038, (by decide : 16 + 0 ≤ _), (by decide : 68 + 0 ≤ _)⟩)
      dsimp only [Pt.U, Pt.locs, Pt.cells, Pt.slots] at X1040 l1040 y1040 z1040 st1040 hQ1040
      subst l1040 y1040 z1040
      obtain ⟨rfl, N1040q, eq1040⟩ := hQ1040
      have N1041 := Fr.app N1039 N1040q
      refine GoH.step (fun _ k => st1040 _ (XS.ifNo X1040.here hx rfl (hb hby at_105) rfl ((if0 _ _).trans (feq (by decide)).1) (XS.aload X1040.here hx rfl (hb hby at_108) rfl rfl (XS.iconst X1040.here hx rfl (hb hby at_110) (XS.iload X1040.here hx rfl (hb hby at_111) rfl (XS.iloadN X1040.here hx rfl (hb hby at_113) rfl (XS.iloadN X1040.here hx rfl (hb hby at_114) rfl (XS.iloadN X1040.here hx rfl (hb hby at_115) rfl k)))))))) ?_
      show GoH p e below s _ _ _ T1040 (mkF m 116 #[vi p1, vi p2, vi p3, .val cv1, .val cv0, vr uu63, vr uu66, vr b985, vr uu45, .val cv2] [(.int p2), (.int p1), cv1, cv2, cv3, (.ref uu45)])
      obtain ⟨_, _, ⟨T1042, L1042, k1042, n1042⟩, -, X1042, ⟨Lc1042, hQ1042, l1042, y1042, z1042⟩, st1042⟩ := Jvm.LawKit.callS X1040 hx (y := xm36) hown1009 (mvT hZ1009 (tw173 hw)) (mvT hZ1009 (tw174 hw)) (mvT hZ1009 (tw2 hw)) (mvT hZ1009 (tw175 hw)) (by decide) (backOf (W := 0) (rm_ObjectRefToStringPinLaw_ok_1 l Z a0 hw [] uu45 ci3 ci2 ci1 p1 p2 T1009.heap n0 f1017 (by decide)) hZ1009 (tw175 hw) (tw2 hw) (by decide) (by decide)) (g := (mkF m 116 #[vi p1, vi p2, vi p3, .val cv1, .val cv0, vr uu63, vr uu66, vr b985, vr uu45, .val cv2] [(.int p2), (.int p1), cv1, cv2, cv3, (.ref uu45)])) rfl (by rw [hml]; rfl) (argsL := [(.ref uu45), cv3, cv2, cv1, (.int p1), (.int p2)]) (rest := []) (lenOf pd_24 rfl) rfl (Nat.le_of_eq rfl) (hb hby at_116) (fun _ _ => ⟨rfl, eq1040, (by decide : 16 + 0 ≤ _), (by decide : 68 + 0 ≤ _)⟩)
      dsimp only [Pt.U, Pt.locs, Pt.cells, Pt.slots] at X1042 l1042 y1042 z1042 st1042 hQ1042
      subst l1042 y1042 z1042
      obtain ⟨rfl, N1042q, eq1042⟩ := hQ1042
      have N1043 := Fr.app N1041 N1042q
      refine GoH.step (fun _ k => st1042 _ (XS.ifNo X1042.here hx rfl (hb hby at_119) rfl ((if0 _ _).trans (feq (by decide)).1) (XS.aload X1042.here hx rfl (hb hby at_122) rfl rfl (XS.iconst X1042.here hx rfl (hb hby at_124) (XS.iload X1042.here hx rfl (hb hby at_125) rfl (XS.iloadN X1042.here hx rfl (hb hby at_127) rfl (XS.iloadN X1042.here hx rfl (hb hby at_128) rfl (XS.iloadN X1042.here hx rfl (hb hby at_129) rfl k)))))))) ?_
      show GoH p e below s _ _ _ T1042 (mkF m 130 #[vi p1, vi p2, vi p3, .val cv1, .val cv0, vr uu63, vr uu66, vr b985, vr uu45, .val cv2] [(.int p2), (.int p1), cv1, cv2, cv4, (.ref uu45)])
      obtain ⟨_, _, ⟨T1044, L1044, k1044, n1044⟩, -, X1044, ⟨Lc1044, hQ1044, l1044, y1044, z1044⟩, st1044⟩ := Jvm.LawKit.callS X1042 hx (y := xm36) hown1009 (mvT hZ1009 (tw173 hw)) (mvT hZ1009 (tw174 hw)) (mvT hZ1009 (tw2 hw)) (mvT hZ1009 (tw175 hw)) (by decide) (backOf (W := 0) (rm_ObjectRefToStringPinLaw_ok_1 l Z a0 hw [] uu45 ci4 ci2 ci1 p1 p2 T1009.heap n0 f1017 (by decide)) hZ1009 (tw175 hw) (tw2 hw) (by decide) (by decide)) (g := (mkF m 130 #[vi p1, vi p2, vi p3, .val cv1, .val cv0, vr uu63, vr uu66, vr b985, vr uu45, .val cv2] [(.int p2), (.int p1), cv1, cv2, cv4, (.ref uu45)])) rfl (by rw [hml]; rfl) (argsL := [(.ref uu45), cv4, cv2, cv1, (.int p1), (.int p2)]) (rest := []) (lenOf pd_24 rfl) rfl (Nat.le_of_eq rfl) (hb hby at_130) (fun _ _ => ⟨rfl, eq1042, (by decide : 16 + 0 ≤ _), (by decide : 68 + 0 ≤ _)⟩)
      dsimp only [Pt.U, Pt.locs, Pt.cells, Pt.slots] at X1044 l1044 y1044 z1044 st1044 hQ1044
      subst l1044 y1044 z1044
      obtain ⟨rfl, N1044q, eq1044⟩ := hQ1044
      have N1045 := Fr.app N1043 N1044q
      refine GoH.step (fun _ k => st1044 _ (XS.ifNo X1044.here hx rfl (hb hby at_133) rfl ((if0 _ _).trans (feq (by decide)).1) (XS.aload X1044.here hx rfl (hb hby at_136) rfl rfl (XS.iconst X1044.here hx rfl (hb hby at_138) (XS.iload X1044.here hx rfl (hb hby at_139) rfl (XS.iloadN X1044.here hx rfl (hb hby at_141) rfl (XS.iloadN X1044.here hx rfl (hb hby at_142) rfl (XS.iloadN X1044.here hx rfl (hb hby at_143) rfl k)))))))) ?_
      show GoH p e below s _ _ _ T1044 (mkF m 144 #[vi p1, vi p2, vi p3, .val cv1, .val cv0, vr uu63, vr uu66, vr b985, vr uu45, .val cv2] [(.int p2), (.int p1), cv1, cv2, cv5, (.ref uu45)])
      obtain ⟨_, _, ⟨T1046, L1046, k1046, n1046⟩, -, X1046, ⟨Lc1046, hQ1046, l1046, y1046, z1046⟩, st1046⟩ := Jvm.LawKit.callS X1044 hx (y := xm36) hown1009 (mvT hZ1009 (tw173 hw)) (mvT hZ1009 (tw174 hw)) (mvT hZ1009 (tw2 hw)) (mvT hZ1009 (tw175 hw)) (by decide) (backOf (W := 0) (rm_ObjectRefToStringPinLaw_ok_1 l Z a0 hw [] uu45 ci5 ci2 ci1 p1 p2 T1009.heap n0 f1017 (by decide)) hZ1009 (tw175 hw) (tw2 hw) (by decide) (by decide)) (g := (mkF m 144 #[vi p1, vi p2, vi p3, .val cv1, .val cv0, vr uu63, vr uu66, vr b985, vr uu45, .val cv2] [(.int p2), (.int p1), cv1, cv2, cv5, (.ref uu45)])) rfl (by rw [hml]; rfl) (argsL := [(.ref uu45), cv5, cv2, cv1, (.int p1), (.int p2)]) (rest := []) (lenOf pd_24 rfl) rfl (Nat.le_of_eq rfl) (hb hby at_144) (fun _ _ => ⟨rfl, eq1044, (by decide : 16 + 0 ≤ _), (by decide : 68 + 0 ≤ _)⟩)
      dsimp only [Pt.U, Pt.locs, Pt.cells, Pt.slots] at X1046 l1046 y1046 z1046 st1046 hQ1046
      subst l1046 y1046 z1046
      obtain ⟨rfl, N1046q, eq1046⟩ := hQ1046
      have N1047 := Fr.app N1045 N1046q
      refine GoH.step (fun _ k => st1046 _ (XS.ifNo X1046.here hx rfl (hb hby at_147) rfl ((if0 _ _).trans (feq (by decide)).1) (XS.aload X1046.here hx rfl (hb hby at_150) rfl rfl (XS.bipush X1046.here hx rfl (hb hby at_152) (XS.iload X1046.here hx rfl (hb hby at_154) rfl (XS.iloadN X1046.here hx rfl (hb hby at_156) rfl (XS.iloadN X1046.here hx rfl (hb hby at_157) rfl (XS.iloadN X1046.here hx rfl (hb hby at_158) rfl k)))))))) ?_
      show GoH p e below s _ _ _ T1046 (mkF m 159 #[vi p1, vi p2, vi p3, .val cv1, .val cv0, vr uu63, vr uu66, vr b985, vr uu45, .val cv2] [(.int p2), (.int p1), cv1, cv2, cv6, (.ref uu45)])
      obtain ⟨_, _, ⟨T1048, L1048, k1048, n1048⟩, -, X1048, ⟨Lc1048, hQ1048, l1048, y1048, z1048⟩, st1048⟩ := Jvm.LawKit.callS X1046 hx (y := xm36) hown1009 (mvT hZ1009 (tw173 hw)) (mvT hZ1009 (tw174 hw)) (mvT hZ1009 (tw2 hw)) (mvT hZ1009 (tw175 hw)) (by decide) (backOf (W := 0) (rm_ObjectRefToStringPinLaw_ok_1 l Z a0 hw [] uu45 ci6 ci2 ci1 p1 p2 T1009.heap n0 f1017 (by decide)) hZ1009 (tw175 hw) (tw2 hw) (by decide) (by decide)) (g := (mkF m 159 #[vi p1, vi p2, vi p3, .val cv1, .val cv0, vr uu63, vr uu66, vr b985, vr uu45, .val cv2] [(.int p2), (.int p1), cv1, cv2, cv6, (.ref uu45)])) rfl (by rw [hml]; rfl) (argsL := [(.ref uu45), cv6, cv2, cv1, (.int p1), (.int p2)]) (rest := []) (lenOf pd_24 rfl) rfl (Nat.le_of_eq rfl) (hb hby at_159) (fun _ _ => ⟨rfl, eq1046, (by decide : 16 + 0 ≤ _), (by decide : 68 + 0 ≤ _)⟩)
      dsimp only [Pt.U, Pt.locs, Pt.cells, Pt.slots] at X1048 l1048 y1048 z1048 st1048 hQ1048
      subst l1048 y1048 z1048
      obtain ⟨rfl, N1048q, eq1048⟩ := hQ1048
      have N1049 := Fr.app N1047 N1048q
      refine GoH.step (fun _ k => st1048 _ (XS.ifNo X1048.here hx rfl (hb hby at_162) rfl ((if0 _ _).trans (feq (by decide)).1) (XS.iconst X1048.here hx rfl (hb hby at_165) (XS.goto X1048.here hx rfl (pc0 := 166) (pc' := 170) rfl (hb hby at_166) (by decide) (by decide) k)))) ?_
      show GoH p e below s _ _ _ T1048 (mkF m 170 #[vi p1, vi p2, vi p3, .val cv1, .val cv0, vr uu63, vr uu66, vr b985, vr uu45, .val cv2] [cv1])
      exact GoH.retN X1048 hS1009 hx hlk (t := .boolean) Bd.returns (by simp) (hb hby at_170) eq1048 (Nat.le_refl _) ⟨rfl, N1049⟩ (f1014.trans (CHv.at X1048 hZ1009 (own_EW hw) f1014.1)) (by decide) (by decide)
    · show GoH p e below s _ _ _ T978 (mkF m 21 #[vi p1, vi p2, vi p3, .val cv1, .val cv1, vr uu63, .unset, .unset, .unset, .unset] [cv1, (.int p2)])
      have f1050 := (O0.keep K978 all0)
      have f1051 := (Nat.le_trans Z0 K978.1)
      obtain ⟨_, _, ⟨T1052, L1052, k1052, n1052⟩, -, X1052s, hs1052, hg1052, ⟨Lc1052, hQ1052, l1052, y1052, z1052, ch1052⟩, st1052⟩ := callSS X978 hx (y := xm33) hown978 (mvT hZ978 (tw0 hw)) (mvT hZ978 (tw1 hw)) (mvT hZ978 (tw2 hw)) (mvT hZ978 (tw3 hw)) (by decide) (backOfSH (W := 0) (rm_ObjectRefToStringPinLaw_make_1 l Z a0 hw [] p2 cs T978.heap n0 f1051 Z_S_COMPACT_STRINGS f1050 hcs (own_c2 p2 ci0)) hZ978 (tw3 hw) (tw2 hw) (by decide) (by decide) (own_EW hw) f980.1) (g := (mkF m 21 #[vi p1, vi p2, vi p3, .val cv1, .val cv1, vr uu63, .unset, .unset, .unset, .unset] [cv1, (.int p2)])) rfl (by rw [hml]; rfl) (argsL := [(.int p2), cv1]) (rest := []) (lenOf pd_3 rfl) rfl (Nat.le_of_eq rfl) (hb hby at_21) (fun _ _ => ⟨rfl, rfl, (by decide : 3 + 3 ≤ _), (by decide : 6 + 6 ≤ _)⟩)
      dsimp only [Pt.U, Pt.locs, Pt.cells, Pt.slots] at X1052s hs1052 hg1052 l1052 y1052 z1052 st1052 hQ1052 ch1052
      subst l1052 y1052 z1052
      obtain ⟨X1052, hS1052, hZ1052, hown1052⟩ := rebS hS978 (by exact (Nat.le_refl _)) X1052s hs1052 hg1052 hZ978 hown978
      obtain ⟨uu68, uu69, uu70, rfl, N1052q, K1052, P1052_0, P1052_1, P1052_2, P1052_3, P1052_4, P1052_5, P1052_6⟩ := hQ1052
      have N1053 := Fr.app N979 N1052q
      have f1054 := f980.trans ch1052
      refine GoH.step (fun _ k => st1052.trans (XS.astore X1052.here hx rfl (hb hby at_24) rfl rfl (l' := #[vi p1, vi p2, vi p3, .val cv1, .val cv1, vr uu63, vr uu68, .unset, .unset, .unset]) rfl k)) ?_
      show GoH p e below s _ _ _ T1052 (mkF m 26 #[vi p1, vi p2, vi p3, .val cv1, .val cv1, vr uu63, vr uu68, .unset, .unset, .unset] [])
      obtain ⟨T1055, h1055, X1055, e1055, E1055, A1055, D1055, -, st1055⟩ := newO X1052 hx hZ1052 hown1052 (tw40 hw) (tw41 hw) (tw42 hw) rfl (g := (mkF m 26 #[vi p1, vi p2, vi p3, .val cv1, .val cv1, vr uu63, vr uu68, .unset, .unset, .unset] [])) rfl (hb hby at_26) (by decide) (by decide)
      obtain ⟨b1055, g1055⟩ : ∃ z, z = T1052.heap.size := ⟨_, rfl⟩
      rw [← g1055] at A1055 D1055 st1055
      have f1056 : Fld Z h1055 b1055 xs3 "type" xs21 .null := D1055 (Or.inr (tw53 hw)) (ty := (.object xs25)) (by decide)
      have f1057 : Fld Z h1055 b1055 xs3 "id" xs21 .null := D1055 (Or.inr (tw55 hw)) (ty := (.object xs25)) (by decide)
      refine GoH.step (fun _ k => st1055 _ (XS.dup X1055.here hx rfl (hb hby at_29) rfl rfl (XS.aload X1055.here hx rfl (hb hby at_30) rfl rfl (XS.aload X1055.here hx rfl (hb hby at_32) rfl rfl k)))) ?_
      show GoH p e below s _ _ _ T1055 (mkF m 34 #[vi p1, vi p2, vi p3, .val cv1, .val cv1, vr uu63, vr uu68, .unset, .unset, .unset] [(.ref uu68), (.ref uu63), (.ref b1055), (.ref b1055)])
      have f1058 := (Nat.le_trans (Nat.le_trans f1051 K1052.1) E1055.1)
      have f1059 := (Nat.le_trans f1051 K1052.1)
      have g1060 := Nat.le_trans f1059 (Nat.le_of_eq g1055.symm)
      obtain ⟨_, _, ⟨T1061, L1061, k1061, n1061⟩, -, X1061, ⟨Lc1061, hQ1061, l1061, y1061, z1061⟩, st1061⟩ := X1055.specialBack hx (y := xm31) rfl hown1052 (mvT hZ1052 (tw43 hw)) (mvT hZ1052 (tw44 hw)) (mvT hZ1052 (tw45 hw)) (by decide) (backOf (W := 1) (rm_ObjectRef_new_0 l Z a0 hw [] b1055 uu63 uu68 h1055 n0 f1058 A1055 f1056 g1060 f1057) hZ1052 (tw45 hw) (tw42 hw) (by decide) (by decide)) (g := (mkF m 34 #[vi p1, vi p2, vi p3, .val cv1, .val cv1, vr uu63, vr uu68, .unset, .unset, .unset] [(.ref uu68), (.ref uu63), (.ref b1055), (.ref b1055)])) rfl (by rw [hml]; rfl) (Steps.refl _) (a := b1055) (argsL := [(.ref uu63), (.ref uu68)]) (rest := [(.ref b1055)]) (lenOf pd_5 rfl) rfl (Nat.le_of_eq rfl) (hb hby at_34) (fun _ _ => ⟨rfl, e1055, (by decide : 7 + 0 ≤ _), (by decide : 14 + 0 ≤ _)⟩)
      dsimp only [Pt.U, Pt.locs, Pt.cells, Pt.slots] at X1061 l1061 y1061 z1061 st1061 hQ1061
      subst l1061 y1061 z1061
      obtain ⟨rfl, N1061q, K1061, P1061_0, P1061_1⟩ := hQ1061
      have N1062 := Fr.app N1053 N1061q
      refine GoH.step (fun _ k => st1061.trans (XS.astore X1061.here hx rfl (hb hby at_37) rfl rfl (l' := #[vi p1, vi p2, vi p3, .val cv1, .val cv1, vr uu63, vr uu68, vr b1055, .unset, .unset]) rfl (XS.aload X1061.here hx rfl (hb hby at_39) rfl rfl k))) ?_
      show GoH p e below s _ _ _ T1061 (mkF m 41 #[vi p1, vi p2, vi p3, .val cv1, .val cv1, vr uu63, vr uu68, vr b1055, .unset, .unset] [(.ref b1055)])
      have f1063 := (((f1050.keep K1052 all0).ext E1055).keep K1061 (allS g1060 all0))
      have f1064 := (Nat.le_trans f1058 K1061.1)
      have f1065 := (((P978_1.keep K1052).ext E1055).keep K1061)
      have f1066 := (P978_1.keep K1052)
      have ne1067 : uu63 ≠ b1055 := Nat.ne_of_lt (Nat.lt_of_lt_of_le f1066.lt (Nat.le_of_eq g1055.symm))
      have f1068 := (((P978_3.keep K1052 nin0).ext E1055).keep K1061 (ninS ne1067 nin0))
      have f1069 := (P978_5.keep K1052 nin0)
      have ne1070 : uu64 ≠ b1055 := Nat.ne_of_lt (Nat.lt_of_lt_of_le f1069.lt (Nat.le_of_eq g1055.symm))
      have f1071 := (((P978_5.keep K1052 nin0).ext E1055).keep K1061 (ninS ne1070 nin0))
      have f1072 := (((P978_2.keep K1052 nin0).ext E1055).keep K1061 (ninS ne1067 nin0))
      have f1073 := ((P1052_1.ext E1055).keep K1061)
      have ne1074 : uu68 ≠ b1055 := Nat.ne_of_lt (Nat.lt_of_lt_of_le P1052_1.lt (Nat.le_of_eq g1055.symm))
      have f1075 := ((P1052_3.ext E1055).keep K1061 (ninS ne1074 nin0))
      have ne1076 : uu69 ≠ b1055 := Nat.ne_of_lt (Nat.lt_of_lt_of_le P1052_5.lt (Nat.le_of_eq g1055.symm))
      have f1077 := ((P1052_5.ext E1055).keep K1061 (ninS ne1076 nin0))
      have f1078 := ((P1052_2.ext E1055).keep K1061 (ninS ne1074 nin0))
      have f1080 := (own_chK (own_chE f1054 E1055) K1061 (sfS (Safe.exa hZ1052.alike A1055 (by decide) (by decide)) sf0))
      have f1081 := (A1055.keep K1061)
      obtain ⟨cq1079, kq1079, q1079a, q1079b, q1079c⟩ := isOf hZ1052 rfl f1081
      obtain ⟨_, _, ⟨T1079, L1079, k1079, n1079⟩, -, X1079s, hs1079, hg1079, ⟨Lc1079, hQ1079, l1079, y1079, z1079, ch1079⟩, st1079⟩ := X1061.virtualBackS hx (y := xm21) (z := xm21) hown1052 (mvT hZ1052 (tw56 hw)) (mvT hZ1052 (tw57 hw)) (notFace_of_selects (args := #[]) (mvT hZ1052 (tw59 hw))) (mvT hZ1052 (tw59 hw)) (mvT hZ1052 (tw58 hw)) (by decide) (backOfSH (W := 0) (rm_ObjectRef_toString_0 l Z a0 hw [] b1055 cs uu63 uu64 uu65 ci1 ([(.int (nar .byte ((nar .char (own_ch p1 ci0)).toInt8.toInt32)))]) uu68 uu69 uu70 ci1 ([(.int (nar .byte ((nar .char (own_ch p2 ci0)).toInt8.toInt32)))]) T1061.heap n0 f1064 Z_S_COMPACT_STRINGS f1063 hcs P1061_0 f1065 f1068 f1071 f1072 (by decide) (by decide) (Nat.le_of_ble_eq_true rfl) (Nat.le_of_ble_eq_true rfl) (Nat.le_of_ble_eq_true rfl) (by decide) (by decide) (Nat.le_of_ble_eq_true rfl) (Nat.le_of_ble_eq_true rfl) P1061_1 f1073 f1075 f1077 f1078 (by decide) (by decide) (by decide) (Nat.le_of_ble_eq_true rfl) (Nat.le_of_ble_eq_true rfl) (Nat.le_of_ble_eq_true rfl) (by decide) (by decide) (by decide) (Nat.le_of_ble_eq_true rfl) (by decide) (Nat.le_of_ble_eq_true rfl) (Nat.le_of_ble_eq_true rfl) (Nat.le_of_ble_eq_true rfl)) hZ1052 (tw60 hw) (tw42 hw) (by decide) (by decide) (own_EW hw) f1080.1) q1079a q1079c (g := (mkF m 41 #[vi p1, vi p2, vi p3, .val cv1, .val cv1, vr uu63, vr uu68, vr b1055, .unset, .unset] [(.ref b1055)])) rfl (by rw [hml]; rfl) (Steps.refl _) (argsL := []) (rest := []) (lenOf pd_21 rfl) rfl (Nat.le_of_eq rfl) (hb hby at_41) (fun _ _ => ⟨rfl, rfl, (by decide : 7 + 6 ≤ _), (by decide : 14 + 48 ≤ _)⟩)
      dsimp only [Pt.U, Pt.locs, Pt.cells, Pt.slots] at X1079s hs1079 hg1079 l1079 y1079 z1079 st1079 hQ1079 ch1079
      subst l1079 y1079 z1079
      have f1082 := (Nat.le_trans (Nat.le_trans (Nat.le_refl _) E1055.1) K1061.1)
      obtain ⟨X1079, hS1079, hZ1079, hown1079⟩ := rebS hS1052 (by exact f1082) X1079s hs1079 hg1079 hZ1052 hown1052
      obtain ⟨uu71, uu72, uu73, rfl, N1079q, K1079, P1079_0, P1079_1, P1079_2, P1079_3, P1079_4, P1079_5, P1079_6⟩ := hQ1079
      have N1083 := Fr.app N1062 N1079q
      have f1084 := f1080.trans ch1079
      refine GoH.step (fun _ k => st1079.trans k) ?_
      show GoH p e below s _ _ _ T1079 (mkF m 44 #[vi p1, vi p2, vi p3, .val cv1, .val cv1, vr uu63, vr uu68, vr b1055, .unset, .unset] [(.ref uu71)])
      have f1085 : Arv Z T1079.heap uu72 uu73 .byte ci3 [(.int (nar .byte ((nar .char (own_ch p1 ci0)).toInt8.toInt32))), cv58, (.int (nar .byte ((nar .char (own_ch p2 ci0)).toInt8.toInt32)))] cv0 := P1079_5
      refine GoH.step (fun _ k => XS.astore X1079.here hx rfl (hb hby at_44) rfl rfl (l' := #[vi p1, vi p2, vi p3, .val cv1, .val cv1, vr uu63, vr uu68, vr b1055, vr uu71, .unset]) rfl (XS.iloadN X1079.here hx rfl (hb hby at_46) rfl (XS.iconst X1079.here hx rfl (hb hby at_47) (XS.iadd X1079.here hx rfl (hb hby at_48) rfl (XS.iload X1079.here hx rfl (hb hby at_49) rfl (XS.iadd X1079.here hx rfl (hb hby at_51) rfl (XS.istore X1079.here hx rfl (hb hby at_52) rfl (l' := #[vi p1, vi p2, vi p3, .val cv1, .val cv1, vr uu63, vr uu68, vr b1055, vr uu71, .val cv3]) rfl (XS.aload X1079.here hx rfl (hb hby at_54) rfl rfl k)))))))) ?_
      show GoH p e below s _ _ _ T1079 (mkF m 56 #[vi p1, vi p2, vi p3, .val cv1, .val cv1, vr uu63, vr uu68, vr b1055, vr uu71, .val cv3] [(.ref uu71)])
      have f1086 := (f1063.keep K1079 all0)
      have f1087 := (Nat.le_trans f1064 K1079.1)
      obtain ⟨cq1088, kq1088, q1088a, q1088b, q1088c⟩ := isOf hZ1079 rfl P1079_1
      obtain ⟨_, _, ⟨T1088, L1088, k1088, n1088⟩, -, X1088, ⟨Lc1088, hQ1088, l1088, y1088, z1088⟩, st1088⟩ := X1079.virtualBack hx (y := xm19) (z := xm19) hown1079 (mvT hZ1079 (tw172 hw)) (mvT hZ1079 (tw90 hw)) (notFace_of_selects (args := #[]) (mvT hZ1079 (tw92 hw))) (mvT hZ1079 (tw92 hw)) (mvT hZ1079 (tw91 hw)) (by decide) (backOf (W := 0) (rm_String_length_0 l Z a0 hw [] uu71 uu72 uu73 ci3 ([(.int (nar .byte ((nar .char (own_ch p1 ci0)).toInt8.toInt32))), cv58, (.int (nar .byte ((nar .char (own_ch p2 ci0)).toInt8.toInt32)))]) cs T1079.heap n0 f1087 P1079_3 f1085 P1079_1 Z_S_COMPACT_STRINGS f1086 hcs P1079_2) hZ1079 (tw93 hw) (tw6 hw) (by decide) (by decide)) q1088a q1088c (g := (mkF m 56 #[vi p1, vi p2, vi p3, .val cv1, .val cv1, vr uu63, vr uu68, vr b1055, vr uu71, .val cv3] [(.ref uu71)])) rfl (by rw [hml]; rfl) (Steps.refl _) (argsL := []) (rest := []) (lenOf pd_8 rfl) rfl (Nat.le_of_eq rfl) (hb hby at_56) (fun _ _ => ⟨rfl, rfl, (by decide : 13 + 0 ≤ _), (by decide : 62 + 0 ≤ _)⟩)
      dsimp only [Pt.U, Pt.locs, Pt.cells, Pt.slots] at X1088 l1088 y1088 z1088 st1088 hQ1088
      subst l1088 y1088 z1088
      obtain ⟨rfl, N1088q, eq1088⟩ := hQ1088
      have N1089 := Fr.app N1083 N1088q
      refine GoH.step (fun _ k => st1088.trans (XS.iload X1088.here hx rfl (hb hby at_59) rfl (XS.icmpYes X1088.here hx rfl (pc0 := 61) (pc' := 66) rfl (hb hby at_61) rfl (teq (by decide)).1 (by decide) (by decide) (XS.aload X1088.here hx rfl (hb hby at_66) rfl rfl (XS.iconst X1088.here hx rfl (hb hby at_68) (XS.iload X1088.here hx rfl (hb hby at_69) rfl (XS.iloadN X1088.here hx rfl (hb hby at_71) rfl (XS.iloadN X1088.here hx rfl (hb hby at_72) rfl (XS.iloadN X1088.here hx rfl (hb hby at_73) rfl k))))))))) ?_
      show GoH p e below s _ _ _ T1088 (mkF m 74 #[vi p1, vi p2, vi p3, .val cv1, .val cv1, vr uu63, vr uu68, vr b1055, vr uu71, .val cv3] [(.int p2), (.int p1), cv1, cv3, cv0, (.ref uu71)])
      obtain ⟨_, _, ⟨T1090, L1090, k1090, n1090⟩, -, X1090, ⟨Lc1090, hQ1090, l1090, y1090, z1090⟩, st1090⟩ := Jvm.LawKit.callS X1088 hx (y := xm36) hown1079 (mvT hZ1079 (tw173 hw)) (mvT hZ1079 (tw174 hw)) (mvT hZ1079 (tw2 hw)) (mvT hZ1079 (tw175 hw)) (by decide) (backOf (W := 0) (rm_ObjectRefToStringPinLaw_ok_3 l Z a0 hw [] uu71 ci0 ci3 ci1 p1 p2 uu72 uu73 ci3 ([(.int (nar .byte ((nar .char (own_ch p1 ci0)).toInt8.toInt32))), cv58, (.int (nar .byte ((nar .char (own_ch p2 ci0)).toInt8.toInt32)))]) (nar .byte ((nar .char (own_ch p1 ci0)).toInt8.toInt32)) cs fv T1079.heap n0 f1087 (by decide) (by decide) P1079_1 P1079_2 P1079_3 f1085 rfl Z_S_COMPACT_STRINGS Z_S_SIOOBE_FORMATTER f1086 hcs hfv (by decide) (by decide) (own_rt p1 ci0)) hZ1079 (tw175 hw) (tw2 hw) (by decide) (by decide)) (g := (mkF m 74 #[vi p1, vi p2, vi p3, .val cv1, .val cv1, vr uu63, vr uu68, vr b1055, vr uu71, .val cv3] [(.int p2), (.int p1), cv1, cv3, cv0, (.ref uu71)])) rfl (by rw [hml]; rfl) (argsL := [(.ref uu71), cv0, cv3, cv1, (.int p1), (.int p2)]) (rest := []) (lenOf pd_24 rfl) rfl (Nat.le_of_eq rfl) (hb hby at_74) (fun _ _ => ⟨rfl, eq1088, (by decide : 13 + 0 ≤ _), (by decide : 62 + 0 ≤ _)⟩)
      dsimp only [Pt.U, Pt.locs, Pt.cells, Pt.slots] at X1090 l1090 y1090 z1090 st1090 hQ1090
      subst l1090 y1090 z1090
      obtain ⟨rfl, N1090q, eq1090⟩ := hQ1090
      have N1091 := Fr.app N1089 N1090q
      refine GoH.step (fun _ k => st1090 _ (XS.ifNo X1090.here hx rfl (hb hby at_77) rfl ((if0 _ _).trans (feq (by decide)).1) (XS.aload X1090.here hx rfl (hb hby at_80) rfl rfl (XS.iconst X1090.here hx rfl (hb hby at_82) (XS.iload X1090.here hx rfl (hb hby at_83) rfl (XS.iloadN X1090.here hx rfl (hb hby at_85) rfl (XS.iloadN X1090.here hx rfl (hb hby at_86) rfl (XS.iloadN X1090.here hx rfl (hb hby at_87) rfl k)))))))) ?_
      show GoH p e below s _ _ _ T1090 (mkF m 88 #[vi p1, vi p2, vi p3, .val cv1, .val cv1, vr uu63, vr uu68, vr b1055, vr uu71, .val cv3] [(.int p2), (.int p1), cv1, cv3, cv1, (.ref uu71)])
      obtain ⟨_, _, ⟨T1092, L1092, k1092, n1092⟩, -, X1092, ⟨Lc1092, hQ1092, l1092, y1092, z1092⟩, st1092⟩ := Jvm.LawKit.callS X1090 hx (y := xm36) hown1079 (mvT hZ1079 (tw173 hw)) (mvT hZ1079 (tw174 hw)) (mvT hZ1079 (tw2 hw)) (mvT hZ1079 (tw175 hw)) (by decide) (backOf (W := 0) (rm_ObjectRefToStringPinLaw_ok_0 l Z a0 hw [] uu71 ci1 ci3 ci1 p1 p2 cs uu72 uu73 ci3 ([(.int (nar .byte ((nar .char (own_ch p1 ci0)).toInt8.toInt32))), cv58, (.int (nar .byte ((nar .char (own_ch p2 ci0)).toInt8.toInt32)))]) fv ci58 T1079.heap n0 f1087 (by decide) (by decide) rfl P1079_1 Z_S_COMPACT_STRINGS f1086 hcs P1079_2 P1079_3 f1085 Z_S_SIOOBE_FORMATTER hfv rfl (by decide) (by decide) (by decide)) hZ1079 (tw175 hw) (tw2 hw) (by decide) (by decide)) (g := (mkF m 88 #[vi p1, vi p2, vi p3, .val cv1, .val cv1, vr uu63, vr uu68, vr b1055, vr uu71, .val cv3] [(.int p2), (.int p1), cv1, cv3, cv1, (.ref uu71)])) rfl (by rw [hml]; rfl) (argsL := [(.ref uu71), cv1, cv3, cv1, (.int p1), (.int p2)]) (rest := []) (lenOf pd_24 rfl) rfl (Nat.le_of_eq rfl) (hb hby at_88) (fun _ _ => ⟨rfl, eq1090, (by decide : 13 + 0 ≤ _), (by decide : 62 + 0 ≤ _)⟩)
      dsimp only [Pt.U, Pt.locs, Pt.cells, Pt.slots] at X1092 l1092 y1092 z1092 st1092 hQ1092
      subst l1092 y1092 z1092
      obtain ⟨rfl, N1092q, eq1092⟩ := hQ1092
      have N1093 := Fr.app N1091 N1092q
      refine GoH.step (fun _ k => st1092 _ (XS.ifNo X1092.here hx rfl (hb hby at_91) rfl ((if0 _ _).trans (feq (by decide)).1) (XS.aload X1092.here hx rfl (hb hby at_94) rfl rfl (XS.iconst X1092.here hx rfl (hb hby at_96) (XS.iload X1092.here hx rfl (hb hby at_97) rfl (XS.iloadN X1092.here hx rfl (hb hby at_99) rfl (XS.iloadN X1092.here hx rfl (hb hby at_100) rfl (XS.iloadN X1092.here hx rfl (hb hby at_101) rfl k)))))))) ?_
      show GoH p e below s _ _ _ T1092 (mkF m 102 #[vi p1, vi p2, vi p3, .val cv1, .val cv1, vr uu63, vr uu68, vr b1055, vr uu71, .val cv3] [(.int p2), (.int p1), cv1, cv3, cv2, (.ref uu71)])
      obtain ⟨_, _, ⟨T1094, L1094, k1094, n1094⟩, -, X1094, ⟨Lc1094, hQ1094, l1094, y1094, z1094⟩, st1094⟩ := Jvm.LawKit.callS X1092 hx (y := xm36) hown1079 (mvT hZ1079 (tw173 hw)) (mvT hZ1079 (tw174 hw)) (mvT hZ1079 (tw2 hw)) (mvT hZ1079 (tw175 hw)) (by decide) (backOf (W := 0) (rm_ObjectRefToStringPinLaw_ok_2 l Z a0 hw [] uu71 ci2 ci3 ci1 p1 p2 uu72 uu73 ci3 ([(.int (nar .byte ((nar .char (own_ch p1 ci0)).toInt8.toInt32))), cv58, (.int (nar .byte ((nar .char (own_ch p2 ci0)).toInt8.toInt32)))]) (nar .byte ((nar .char (own_ch p2 ci0)).toInt8.toInt32)) cs fv T1079.heap n0 f1087 (by decide) (by decide) (by decide) P1079_1 P1079_2 P1079_3 f1085 rfl Z_S_COMPACT_STRINGS Z_S_SIOOBE_FORMATTER f1086 hcs hfv (by decide) (by decide) (own_rt p2 ci0)) hZ1079 (tw175 hw) (tw2 hw) (by decide) (by decide)) (g := (mkF m 102 #[vi p1, vi p2, vi p3, .val cv1, .val cv1, vr uu63, vr uu68, vr b1055, vr uu71, .val cv3] [(.int p2), (.int p1), cv1, cv3, cv2, (.ref uu71)])) rfl (by rw [hml]; rfl) (argsL := [(.ref uu71), cv2, cv3, cv1, (.int p1), (.int p2)]) (rest := []) (lenOf pd_24 rfl) rfl (Nat.le_of_eq rfl) (hb hby at_102) (fun _ _ => ⟨rfl, eq1092, (by decide : 13 + 0 ≤ _), (by decide : 62 + 0 ≤ _)⟩)
      dsimp only [Pt.U, Pt.locs, Pt.cells, Pt.slots] at X1094 l1094 y1094 z1094 st1094 hQ1094
      subst l1094 y1094 z1094
      obtain ⟨rfl, N1094q, eq1094⟩ := hQ1094
      have N1095 := Fr.app N1093 N1094q
      refine GoH.step (fun _ k => st1094 _ (XS.ifNo X1094.here hx rfl (hb hby at_105) rfl ((if0 _ _).trans (feq (by decide)).1) (XS.aload X1094.here hx rfl (hb hby at_108) rfl rfl (XS.iconst X1094.here hx rfl (hb hby at_110) (XS.iload X1094.here hx rfl (hb hby at_111) rfl (XS.iloadN X1094.here hx rfl (hb hby at_113) rfl (XS.iloadN X1094.here hx rfl (hb hby at_114) rfl (XS.iloadN X1094.here hx rfl (hb hby at_115) rfl k)))))))) ?_
      show GoH p e below s _ _ _ T1094 (mkF m 116 #[vi p1, vi p2, vi p3, .val cv1, .val cv1, vr uu63, vr uu68, vr b1055, vr uu71, .val cv3] [(.int p2), (.int p1), cv1, cv3, cv3, (.ref uu71)])
      obtain ⟨_, _, ⟨T1096, L1096, k1096, n1096⟩, -, X1096, ⟨Lc1096, hQ1096, l1096, y1096, z1096⟩, st1096⟩ := Jvm.LawKit.callS X1094 hx (y := xm36) hown1079 (mvT hZ1079 (tw173 hw)) (mvT hZ1079 (tw174 hw)) (mvT hZ1079 (tw2 hw)) (mvT hZ1079 (tw175 hw)) (by decide) (backOf (W := 0) (rm_ObjectRefToStringPinLaw_ok_1 l Z a0 hw [] uu71 ci3 ci3 ci1 p1 p2 T1079.heap n0 f1087 (by decide)) hZ1079 (tw175 hw) (tw2 hw) (by decide) (by decide)) (g := (mkF m 116 #[vi p1, vi p2, vi p3, .val cv1, .val cv1, vr uu63, vr uu68, vr b1055, vr uu71, .val cv3] [(.int p2), (.int p1), cv1, cv3, cv3, (.ref uu71)])) rfl (by rw [hml]; rfl) (argsL := [(.ref uu71), cv3, cv3, cv1, (.int p1), (.int p2)]) (rest := []) (lenOf pd_24 rfl) rfl (Nat.le_of_eq rfl) (hb hby at_116) (fun _ _ => ⟨rfl, eq1094, (by decide : 13 + 0 ≤ _), (by decide : 62 + 0 ≤ _)⟩)
      dsimp only [Pt.U, Pt.locs, Pt.cells, Pt.slots] at X1096 l1096 y1096 z1096 st1096 hQ1096
      subst l1096 y1096 z1096
      obtain ⟨rfl, N1096q, eq1096⟩ := hQ1096
      have N1097 := Fr.app N1095 N1096q
      refine GoH.step (fun _ k => st1096 _ (XS.ifNo X1096.here hx rfl (hb hby at_119) rfl ((if0 _ _).trans (feq (by decide)).1) (XS.aload X1096.here hx rfl (hb hby at_122) rfl rfl (XS.iconst X1096.here hx rfl (hb hby at_124) (XS.iload X1096.here hx rfl (hb hby at_125) rfl (XS.iloadN X1096.here hx rfl (hb hby at_127) rfl (XS.iloadN X1096.here hx rfl (hb hby at_128) rfl (XS.iloadN X1096.here hx rfl (hb hby at_129) rfl k)))))))) ?_
      show GoH p e below s _ _ _ T1096 (mkF m 130 #[vi p1, vi p2, vi p3, .val cv1, .val cv1, vr uu63, vr uu68, vr b1055, vr uu71, .val cv3] [(.int p2), (.int p1), cv1, cv3, cv4, (.ref uu71)])
      obtain ⟨_, _, ⟨T1098, L1098, k1098, n1098⟩, -, X1098, ⟨Lc1098, hQ1098, l1098, y1098, z1098⟩, st1098⟩ := Jvm.LawKit.callS X1096 hx (y := xm36) hown1079 (mvT hZ1079 (tw173 hw)) (mvT hZ1079 (tw174 hw)) (mvT hZ1079 (tw2 hw)) (mvT hZ1079 (tw175 hw)) (by decide) (backOf (W := 0) (rm_ObjectRefToStringPinLaw_ok_1 l Z a0 hw [] uu71 ci4 ci3 ci1 p1 p2 T1079.heap n0 f1087 (by decide)) hZ1079 (tw175 hw) (tw2 hw) (by decide) (by decide)) (g := (mkF m 130 #[vi p1, vi p2, vi p3, .val cv1, .val cv1, vr uu63, vr uu68, vr b1055, vr uu71, .val cv3] [(.int p2), (.int p1), cv1, cv3, cv4, (.ref uu71)])) rfl (by rw [hml]; rfl) (argsL := [(.ref uu71), cv4, cv3, cv1, (.int p1), (.int p2)]) (rest := []) (lenOf pd_24 rfl) rfl (Nat.le_of_eq rfl) (hb hby at_130) (fun _ _ => ⟨rfl, eq1096, (by decide : 13 + 0 ≤ _), (by decide : 62 + 0 ≤ _)⟩)
      dsimp only [Pt.U, Pt.locs, Pt.cells, Pt.slots] at X1098 l1098 y1098 z1098 st1098 hQ1098
      subst l1098 y1098 z1098
      obtain ⟨rfl, N1098q, eq1098⟩ := hQ1098
      have N1099 := Fr.app N1097 N1098q
      refine GoH.step (fun _ k => st1098 _ (XS.ifNo X1098.here hx rfl (hb hby at_133) rfl ((if0 _ _).trans (feq (by decide)).1) (XS.aload X1098.here hx rfl (hb hby at_136) rfl rfl (XS.iconst X1098.here hx rfl (hb hby at_138) (XS.iload X1098.here hx rfl (hb hby at_139) rfl (XS.iloadN X1098.here hx rfl (hb hby at_141) rfl (XS.iloadN X1098.here hx rfl (hb hby at_142) rfl (XS.iloadN X1098.here hx rfl (hb hby at_143) rfl k)))))))) ?_
      show GoH p e below s _ _ _ T1098 (mkF m 144 #[vi p1, vi p2, vi p3, .val cv1, .val cv1, vr uu63, vr uu68, vr b1055, vr uu71, .val cv3] [(.int p2), (.int p1), cv1, cv3, cv5, (.ref uu71)])
      obtain ⟨_, _, ⟨T1100, L1100, k1100, n1100⟩, -, X1100, ⟨Lc1100, hQ1100, l1100, y1100, z1100⟩, st1100⟩ := Jvm.LawKit.callS X1098 hx (y := xm36) hown1079 (mvT hZ1079 (tw173 hw)) (mvT hZ1079 (tw174 hw)) (mvT hZ1079 (tw2 hw)) (mvT hZ1079 (tw175 hw)) (by decide) (backOf (W := 0) (rm_ObjectRefToStringPinLaw_ok_1 l Z a0 hw [] uu71 ci5 ci3 ci1 p1 p2 T1079.heap n0 f1087 (by decide)) hZ1079 (tw175 hw) (tw2 hw) (by decide) (by decide)) (g := (mkF m 144 #[vi p1, vi p2, vi p3, .val cv1, .val cv1, vr uu63, vr uu68, vr b1055, vr uu71, .val cv3] [(.int p2), (.int p1), cv1, cv3, cv5, (.ref uu71)])) rfl (by rw [hml]; rfl) (argsL := [(.ref uu71), cv5, cv3, cv1, (.int p1), (.int p2)]) (rest := []) (lenOf pd_24 rfl) rfl (Nat.le_of_eq rfl) (hb hby at_144) (fun _ _ => ⟨rfl, eq1098, (by decide : 13 + 0 ≤ _), (by decide : 62 + 0 ≤ _)⟩)
      dsimp only [Pt.U, Pt.locs, Pt.cells, Pt.slots] at X1100 l1100 y1100 z1100 st1100 hQ1100
      subst l1100 y1100 z1100
      obtain ⟨rfl, N1100q, eq1100⟩ := hQ1100
      have N1101 := Fr.app N1099 N1100q
      refine GoH.step (fun _ k => st1100 _ (XS.ifNo X1100.here hx rfl (hb hby at_147) rfl ((if0 _ _).trans (feq (by decide)).1) (XS.aload X1100.here hx rfl (hb hby at_150) rfl rfl (XS.bipush X1100.here hx rfl (hb hby at_152) (XS.iload X1100.here hx rfl (hb hby at_154) rfl (XS.iloadN X1100.here hx rfl (hb hby at_156) rfl (XS.iloadN X1100.here hx rfl (hb hby at_157) rfl (XS.iloadN X1100.here hx rfl (hb hby at_158) rfl k)))))))) ?_
      show GoH p e below s _ _ _ T1100 (mkF m 159 #[vi p1, vi p2, vi p3, .val cv1, .val cv1, vr uu63, vr uu68, vr b1055, vr uu71, .val cv3] [(.int p2), (.int p1), cv1, cv3, cv6, (.ref uu71)])
      obtain ⟨_, _, ⟨T1102, L1102, k1102, n1102⟩, -, X1102, ⟨Lc1102, hQ1102, l1102, y1102, z1102⟩, st1102⟩ := Jvm.LawKit.callS X1100 hx (y := xm36) hown1079 (mvT hZ1079 (tw173 hw)) (mvT hZ1079 (tw174 hw)) (mvT hZ1079 (tw2 hw)) (mvT hZ1079 (tw175 hw)) (by decide) (backOf (W := 0) (rm_ObjectRefToStringPinLaw_ok_1 l Z a0 hw [] uu71 ci6 ci3 ci1 p1 p2 T1079.heap n0 f1087 (by decide)) hZ1079 (tw175 hw) (tw2 hw) (by decide) (by decide)) (g := (mkF m 159 #[vi p1, vi p2, vi p3, .val cv1, .val cv1, vr uu63, vr uu68, vr b1055, vr uu71, .val cv3] [(.int p2), (.int p1), cv1, cv3, cv6, (.ref uu71)])) rfl (by rw [hml]; rfl) (argsL := [(.ref uu71), cv6, cv3, cv1, (.int p1), (.int p2)]) (rest := []) (lenOf pd_24 rfl) rfl (Nat.le_of_eq rfl) (hb hby at_159) (fun _ _ => ⟨rfl, eq1100, (by decide : 13 + 0 ≤ _), (by decide : 62 + 0 ≤ _)⟩)
      dsimp only [Pt.U, Pt.locs, Pt.cells, Pt.slots] at X1102 l1102 y1102 z1102 st1102 hQ1102
      subst l1102 y1102 z1102
      obtain ⟨rfl, N1102q, eq1102⟩ := hQ1102
      have N1103 := Fr.app N1101 N1102q
      refine GoH.step (fun _ k => st1102 _ (XS.ifNo X1102.here hx rfl (hb hby at_162) rfl ((if0 _ _).trans (feq (by decide)).1) (XS.iconst X1102.here hx rfl (hb hby at_165) (XS.goto X1102.here hx rfl (pc0 := 166) (pc' := 170) rfl (hb hby at_166) (by decide) (by decide) k)))) ?_
      show GoH p e below s _ _ _ T1102 (mkF m 170 #[vi p1, vi p2, vi p3, .val cv1, .val cv1, vr uu63, vr uu68, vr b1055, vr uu71, .val cv3] [cv1])
      exact GoH.retN X1102 hS1079 hx hlk (t := .boolean) Bd.returns (by simp) (hb hby at_170) eq1102 (Nat.le_refl _) ⟨rfl, N1103⟩ (f1084.trans (CHv.at X1102 hZ1079 (own_EW hw) f1084.1)) (by decide) (by decide)
    · show GoH p e below s _ _ _ T978 (mkF m 21 #[vi p1, vi p2, vi p3, .val cv1, .val cv2, vr uu63, .unset, .unset, .unset, .unset] [cv2, (.int p2)])
      have f1104 := (O0.keep K978 all0)
      have f1105 := (Nat.le_trans Z0 K978.1)
      obtain ⟨_, _, ⟨T1106, L1106, k1106, n1106⟩, -, X1106s, hs1106, hg1106, ⟨Lc1106, hQ1106, l1106, y1106, z1106, ch1106⟩, st1106⟩ := callSS X978 hx (y := xm33) hown978 (mvT hZ978 (tw0 hw)) (mvT hZ978 (tw1 hw)) (mvT hZ978 (tw2 hw)) (mvT hZ978 (tw3 hw)) (by decide) (backOfSH (W := 0) (rm_ObjectRefToStringPinLaw_make_2 l Z a0 hw [] p2 cs T978.heap n0 f1105 Z_S_COMPACT_STRINGS f1104 hcs (own_c2 p2 ci0) (own_c2 p2 ci1)) hZ978 (tw3 hw) (tw2 hw) (by decide) (by decide) (own_EW hw) f980.1) (g := (mkF m 21 #[vi p1, vi p2, vi p3, .val cv1, .val cv2, vr uu63, .unset, .unset, .unset, .unset] [cv2, (.int p2)])) rfl (by rw [hml]; rfl) (argsL := [(.int p2), cv2]) (rest := []) (lenOf pd_3 rfl) rfl (Nat.le_of_eq rfl) (hb hby at_21) (fun _ _ => ⟨rfl, rfl, (by decide : 3 + 3 ≤ _), (by decide : 6 + 8 ≤ _)⟩)
      dsimp only [Pt.U, Pt.locs, Pt.cells, Pt.slots] at X1106s hs1106 hg1106 l1106 y1106 z1106 st1106 hQ1106 ch1106
      subst l1106 y1106 z1106
      obtain ⟨X1106, hS1106, hZ1106, hown1106⟩ := rebS hS978 (by exact (Nat.le_refl _)) X1106s hs1106 hg1106 hZ978 hown978
      obtain ⟨uu74, uu75, uu76, rfl, N1106q, K1106, P1106_0, P1106_1, P1106_2, P1106_3, P1106_4, P1106_5, P1106_6⟩ := hQ1106
      have N1107 := Fr.app N979 N1106q
      have f1108 := f980.trans ch1106
      refine GoH.step (fun _ k => st1106.trans (XS.astore X1106.here hx rfl (hb hby at_24) rfl rfl (l' := #[vi p1, vi p2, vi p3, .val cv1, .val cv2, vr uu63, vr uu74, .unset, .unset, .unset]) rfl k)) ?_
      show GoH p e below s _ _ _ T1106 (mkF m 26 #[vi p1, vi p2, vi p3, .val cv1, .val cv2, vr uu63, vr uu74, .unset, .unset, .unset] [])
      obtain ⟨T1109, h1109, X1109, e1109, E1109, A1109, D1109, -, st1109⟩ := newO X1106 hx hZ1106 hown1106 (tw40 hw) (tw41 hw) (tw42 hw) rfl (g := (mkF m 26 #[vi p1, vi p2, vi p3, .val cv1, .val cv2, vr uu63, vr uu74, .unset, .unset, .unset] [])) rfl (hb hby at_26) (by decide) (by decide)
      obtain ⟨b1109, g1109⟩ : ∃ z, z = T1106.heap.size := ⟨_, rfl⟩
      rw [← g1109] at A1109 D1109 st1109
      have f1110 : Fld Z h1109 b1109 xs3 "type" xs21 .null := D1109 (Or.inr (tw53 hw)) (ty := (.object xs25)) (by decide)
      have f1111 : Fld Z h1109 b1109 xs3 "id" xs21 .null := D1109 (Or.inr (tw55 hw)) (ty := (.object xs25)) (by decide)
      refine GoH.step (fun _ k => st1109 _ (XS.dup X1109.here hx rfl (hb hby at_29) rfl rfl (XS.aload X1109.here hx rfl (hb hby at_30) rfl rfl (XS.aload X1109.here hx rfl (hb hby at_32) rfl rfl k)))) ?_
      show GoH p e below s _ _ _ T1109 (mkF m 34 #[vi p1, vi p2, vi p3, .val cv1, .val cv2, vr uu63, vr uu74, .unset, .unset, .unset] [(.ref uu74), (.ref uu63), (.ref b1109), (.ref b1109)])
      have f1112 := (Nat.le_trans (Nat.le_trans f1105 K1106.1) E1109.1)
      have f1113 := (Nat.le_trans f1105 K1106.1)
      have g1114 := Nat.le_trans f1113 (Nat.le_of_eq g1109.symm)
      obtain ⟨_, _, ⟨T1115, L1115, k1115, n1115⟩, -, X1115, ⟨Lc1115, hQ1115, l1115, y1115, z1115⟩, st1115⟩ := X1109.specialBack hx (y := xm31) rfl hown1106 (mvT hZ1106 (tw43 hw)) (mvT hZ1106 (tw44 hw)) (mvT hZ1106 (tw45 hw)) (by decide) (backOf (W := 1) (rm_ObjectRef_new_0 l Z a0 hw [] b1109 uu63 uu74 h1109 n0 f1112 A1109 f1110 g1114 f1111) hZ1106 (tw45 hw) (tw42 hw) (by decide) (by decide)) (g := (mkF m 34 #[vi p1, vi p2, vi p3, .val cv1, .val cv2, vr uu63, vr uu74, .unset, .unset, .unset] [(.ref uu74), (.ref uu63), (.ref b1109), (.ref b1109)])) rfl (by rw [hml]; rfl) (Steps.refl _) (a := b1109) (argsL := [(.ref uu63), (.ref uu74)]) (rest := [(.ref b1109)]) (lenOf pd_5 rfl) rfl (Nat.le_of_eq rfl) (hb hby at_34) (fun _ _ => ⟨rfl, e1109, (by decide : 7 + 0 ≤ _), (by decide : 16 + 0 ≤ _)⟩)
      dsimp only [Pt.U, Pt.locs, Pt.cells, Pt.slots] at X1115 l1115 y1115 z1115 st1115 hQ1115
      subst l1115 y1115 z1115
      obtain ⟨rfl, N1115q, K1115, P1115_0, P1115_1⟩ := hQ1115
      have N1116 := Fr.app N1107 N1115q
      refine GoH.step (fun _ k => st1115.trans (XS.astore X1115.here hx rfl (hb hby at_37) rfl rfl (l' := #[vi p1, vi p2, vi p3, .val cv1, .val cv2, vr uu63, vr uu74, vr b1109, .unset, .unset]) rfl (XS.aload X1115.here hx rfl (hb hby at_39) rfl rfl k))) ?_
      show GoH p e below s _ _ _ T1115 (mkF m 41 #[vi p1, vi p2, vi p3, .val cv1, .val cv2, vr uu63, vr uu74, vr b1109, .unset, .unset] [(.ref b1109)])
      have f1117 := (((f1104.keep K1106 all0).ext E1109).keep K1115 (allS g1114 all0))
      have f1118 := (Nat.le_trans f1112 K1115.1)
      have f1119 := (((P978_1.keep K1106).ext E1109).keep K1115)
      have f1120 := (P978_1.keep K1106)
      have ne1121 : uu63 ≠ b1109 := Nat.ne_of_lt (Nat.lt_of_lt_of_le f1120.lt (Nat.le_of_eq g1109.symm))
      have f1122 := (((P978_3.keep K1106 nin0).ext E1109).keep K1115 (ninS ne1121 nin0))
      have f1123 := (P978_5.keep K1106 nin0)
      have ne1124 : uu64 ≠ b1109 := Nat.ne_of_lt (Nat.lt_of_lt_of_le f1123.lt (Nat.le_of_eq g1109.symm))
      have f1125 := (((P978_5.keep K1106 nin0).ext E1109).keep K1115 (ninS ne1124 nin0))
      have f1126 := (((P978_2.keep K1106 nin0).ext E1109).keep K1115 (ninS ne1121 nin0))
      have f1127 := ((P1106_1.ext E1109).keep K1115)
      have ne1128 : uu74 ≠ b1109 := Nat.ne_of_lt (Nat.lt_of_lt_of_le P1106_1.lt (Nat.le_of_eq g1109.symm))
      have f1129 := ((P1106_3.ext E1109).keep K1115 (ninS ne1128 nin0))
      have ne1130 : uu75 ≠ b1109 := Nat.ne_of_lt (Nat.lt_of_lt_of_le P1106_5.lt (Nat.le_of_eq g1109.symm))
      have f1131 := ((P1106_5.ext E1109).keep K1115 (ninS ne1130 nin0))
      have f1132 := ((P1106_2.ext E1109).keep K1115 (ninS ne1128 nin0))
      have f1134 := (own_chK (own_chE f1108 E1109) K1115 (sfS (Safe.exa hZ1106.alike A1109 (by decide) (by decide)) sf0))
      have f1135 := (A1109.keep K1115)
      obtain ⟨cq1133, kq1133, q1133a, q1133b, q1133c⟩ := isOf hZ1106 rfl f1135
      obtain ⟨_, _, ⟨T1133, L1133, k1133, n1133⟩, -, X1133s, hs1133, hg1133, ⟨Lc1133, hQ1133, l1133, y1133, z1133, ch1133⟩, st1133⟩ := X1115.virtualBackS hx (y := xm21) (z := xm21) hown1106 (mvT hZ1106 (tw56 hw)) (mvT hZ1106 (tw57 hw)) (notFace_of_selects (args := #[]) (mvT hZ1106 (tw59 hw))) (mvT hZ1106 (tw59 hw)) (mvT hZ1106 (tw58 hw)) (by decide) (backOfSH (W := 0) (rm_ObjectRef_toString_0 l Z a0 hw [] b1109 cs uu63 uu64 uu65 ci1 ([(.int (nar .byte ((nar .char (own_ch p1 ci0)).toInt8.toInt32)))]) uu74 uu75 uu76 ci2 ([(.int (nar .byte ((nar .char (own_ch p2 ci0)).toInt8.toInt32))), (.int (nar .byte ((nar .char (own_ch p2 ci1)).toInt8.toInt32)))]) T1115.heap n0 f1118 Z_S_COMPACT_STRINGS f1117 hcs P1115_0 f1119 f1122 f1125 f1126 (by decide) (by decide) (Nat.le_of_ble_eq_true rfl) (Nat.le_of_ble_eq_true rfl) (Nat.le_of_ble_eq_true rfl) (by decide) (by decide) (Nat.le_of_ble_eq_true rfl) (Nat.le_of_ble_eq_true rfl) P1115_1 f1127 f1129 f1131 f1132 (by decide) (by decide) (by decide) (Nat.le_of_ble_eq_true rfl) (Nat.le_of_ble_eq_true rfl) (Nat.le_of_ble_eq_true rfl) (by decide) (by decide) (by decide) (Nat.le_of_ble_eq_true rfl) (by decide) (Nat.le_of_ble_eq_true rfl) (Nat.le_of_ble_eq_true rfl) (Nat.le_of_ble_eq_true rfl)) hZ1106 (tw60 hw) (tw42 hw) (by decide) (by decide) (own_EW hw) f1134.1) q1133a q1133c (g := (mkF m 41 #[vi p1, vi p2, vi p3, .val cv1, .val cv2, vr uu63, vr uu74, vr b1109, .unset, .unset] [(.ref b1109)])) rfl (by rw [hml]; rfl) (Steps.refl _) (argsL := []) (rest := []) (lenOf pd_21 rfl) rfl (Nat.le_of_eq rfl) (hb hby at_41) (fun _ _ => ⟨rfl, rfl, (by decide : 7 + 6 ≤ _), (by decide : 16 + 48 ≤ _)⟩)
      dsimp only [Pt.U, Pt.locs, Pt.cells, Pt.slots] at X1133s hs1133 hg1133 l1133 y1133 z1133 st1133 hQ1133 ch1133
      subst l1133 y1133 z1133
      have f1136 := (Nat.le_trans (Nat.le_trans (Nat.le_refl _) E1109.1) K1115.1)
      obtain ⟨X1133, hS1133, hZ1133, hown1133⟩ := rebS hS1106 (by exact f1136) X1133s hs1133 hg1133 hZ1106 hown1106
      obtain ⟨uu77, uu78, uu79, rfl, N1133q, K1133, P1133_0, P1133_1, P1133_2, P1133_3, P1133_4, P1133_5, P1133_6⟩ := hQ1133
      have N1137 := Fr.app N1116 N1133q
      have f1138 := f1134.trans ch1133
      refine GoH.step (fun _ k => st1133.trans k) ?_
      show GoH p e below s _ _ _ T1133 (mkF m 44 #[vi p1, vi p2, vi p3, .val cv1, .val cv2, vr uu63, vr uu74, vr b1109, .unset, .unset] [(.ref uu77)])
      have f1139 : Arv Z T1133.heap uu78 uu79 .byte ci4 [(.int (nar .byte ((nar .char (own_ch p1 ci0)).toInt8.toInt32))), cv58, (.int (nar .byte ((nar .char (own_ch p2 ci0)).toInt8.toInt32))), (.int (nar .byte ((nar .char (own_ch p2 ci1)).toInt8.toInt32)))] cv0 := P1133_5
      refine GoH.step (fun _ k => XS.astore X1133.here hx rfl (hb hby at_44) rfl rfl (l' := #[vi p1, vi p2, vi p3, .val cv1, .val cv2, vr uu63, vr uu74, vr b1109, vr uu77, .unset]) rfl (XS.iloadN X1133.here hx rfl (hb hby at_46) rfl (XS.iconst X1133.here hx rfl (hb hby at_47) (XS.iadd X1133.here hx rfl (hb hby at_48) rfl (XS.iload X1133.here hx rfl (hb hby at_49) rfl (XS.iadd X1133.here hx rfl (hb hby at_51) rfl (XS.istore X1133.here hx rfl (hb hby at_52) rfl (l' := #[vi p1, vi p2, vi p3, .val cv1, .val cv2, vr uu63, vr uu74, vr b1109, vr uu77, .val cv4]) rfl (XS.aload X1133.here hx rfl (hb hby at_54) rfl rfl k)))))))) ?_
      show GoH p e below s _ _ _ T1133 (mkF m 56 #[vi p1, vi p2, vi p3, .val cv1, .val cv2, vr uu63, vr uu74, vr b1109, vr uu77, .val cv4] [(.ref uu77)])
      have f1140 := (f1117.keep K1133 all0)
      have f1141 := (Nat.le_trans f1118 K1133.1)
      obtain ⟨cq1142, kq1142, q1142a, q1142b, q1142c⟩ := isOf hZ1133 rfl P1133_1
      obtain ⟨_, _, ⟨T1142, L1142, k1142, n1142⟩, -, X1142, ⟨Lc1142, hQ1142, l1142, y1142, z1142⟩, st1142⟩ := X1133.virtualBack hx (y := xm19) (z := xm19) hown1133 (mvT hZ1133 (tw172 hw)) (mvT hZ1133 (tw90 hw)) (notFace_of_selects (args := #[]) (mvT hZ1133 (tw92 hw))) (mvT hZ1133 (tw92 hw)) (mvT hZ1133 (tw91 hw)) (by decide) (backOf (W := 0) (rm_String_length_0 l Z a0 hw [] uu77 uu78 uu79 ci4 ([(.int (nar .byte ((nar .char (own_ch p1 ci0)).toInt8.toInt32))), cv58, (.int (nar .byte ((nar .char (own_ch p2 ci0)).toInt8.toInt32))), (.int (nar .byte ((nar .char (own_ch p2 ci1)).toInt8.toInt32)))]) cs T1133.heap n0 f1141 P1133_3 f1139 P1133_1 Z_S_COMPACT_STRINGS f1140 hcs P1133_2) hZ1133 (tw93 hw) (tw6 hw) (by decide) (by decide)) q1142a q1142c (g := (mkF m 56 #[vi p1, vi p2, vi p3, .val cv1, .val cv2, vr uu63, vr uu74, vr b1109, vr uu77, .val cv4] [(.ref uu77)])) rfl (by rw [hml]; rfl) (Steps.refl _) (argsL := []) (rest := []) (lenOf pd_8 rfl) rfl (Nat.le_of_eq rfl) (hb hby at_56) (fun _ _ => ⟨rfl, rfl, (by decide : 13 + 0 ≤ _), (by decide : 64 + 0 ≤ _)⟩)
      dsimp only [Pt.U, Pt.locs, Pt.cells, Pt.slots] at X1142 l1142 y1142 z1142 st1142 hQ1142
      subst l1142 y1142 z1142
      obtain ⟨rfl, N1142q, eq1142⟩ := hQ1142
      have N1143 := Fr.app N1137 N1142q
      refine GoH.step (fun _ k => st1142.trans (XS.iload X1142.here hx rfl (hb hby at_59) rfl (XS.icmpYes X1142.here hx rfl (pc0 := 61) (pc' := 66) rfl (hb hby at_61) rfl (teq (by decide)).1 (by decide) (by decide) (XS.aload X1142.here hx rfl (hb hby at_66) rfl rfl (XS.iconst X1142.here hx rfl (hb hby at_68) (XS.iload X1142.here hx rfl (hb hby at_69) rfl (XS.iloadN X1142.here hx rfl (hb hby at_71) rfl (XS.iloadN X1142.here hx rfl (hb hby at_72) rfl (XS.iloadN X1142.here hx rfl (hb hby at_73) rfl k))))))))) ?_
      show GoH p e below s _ _ _ T1142 (mkF m 74 #[vi p1, vi p2, vi p3, .val cv1, .val cv2, vr uu63, vr uu74, vr b1109, vr uu77, .val cv4] [(.int p2), (.int p1), cv1, cv4, cv0, (.ref uu77)])
      obtain ⟨_, _, ⟨T1144, L1144, k1144, n1144⟩, -, X1144, ⟨Lc1144, hQ1144, l1144, y1144, z1144⟩, st1144⟩ := Jvm.LawKit.callS X1142 hx (y := xm36) hown1133 (mvT hZ1133 (tw173 hw)) (mvT hZ1133 (tw174 hw)) (mvT hZ1133 (tw2 hw)) (mvT hZ1133 (tw175 hw)) (by decide) (backOf (W := 0) (rm_ObjectRefToStringPinLaw_ok_3 l Z a0 hw [] uu77 ci0 ci4 ci1 p1 p2 uu78 uu79 ci4 ([(.int (nar .byte ((nar .char (own_ch p1 ci0)).toInt8.toInt32))), cv58, (.int (nar .byte ((nar .char (own_ch p2 ci0)).toInt8.toInt32))), (.int (nar .byte ((nar .char (own_ch p2 ci1)).toInt8.toInt32)))]) (nar .byte ((nar .char (own_ch p1 ci0)).toInt8.toInt32)) cs fv T1133.heap n0 f1141 (by decide) (by decide) P1133_1 P1133_2 P1133_3 f1139 rfl Z_S_COMPACT_STRINGS Z_S_SIOOBE_FORMATTER f1140 hcs hfv (by decide) (by decide) (own_rt p1 ci0)) hZ1133 (tw175 hw) (tw2 hw) (by decide) (by decide)) (g := (mkF m 74 #[vi p1, vi p2, vi p3, .val cv1, .val cv2, vr uu63, vr uu74, vr b1109, vr uu77, .val cv4] [(.int p2), (.int p1), cv1, cv4, cv0, (.ref uu77)])) rfl (by rw [hml]; rfl) (argsL := [(.ref uu77), cv0, cv4, cv1, (.int p1), (.int p2)]) (rest := []) (lenOf pd_24 rfl) rfl (Nat.le_of_eq rfl) (hb hby at_74) (fun _ _ => ⟨rfl, eq1142, (by decide : 13 + 0 ≤ _), (by decide : 64 + 0 ≤ _)⟩)
      dsimp only [Pt.U, Pt.locs, Pt.cells, Pt.slots] at X1144 l1144 y1144 z1144 st1144 hQ1144
      subst l1144 y1144 z1144
      obtain ⟨rfl, N1144q, eq1144⟩ := hQ1144
      have N1145 := Fr.app N1143 N1144q
      refine GoH.step (fun _ k => st1144 _ (XS.ifNo X1144.here hx rfl (hb hby at_77) rfl ((if0 _ _).trans (feq (by decide)).1) (XS.aload X1144.here hx rfl (hb hby at_80) rfl rfl (XS.iconst X1144.here hx rfl (hb hby at_82) (XS.iload X1144.here hx rfl (hb hby at_83) rfl (XS.iloadN X1144.here hx rfl (hb hby at_85) rfl (XS.iloadN X1144.here hx rfl (hb hby at_86) rfl (XS.iloadN X1144.here hx rfl (hb hby at_87) rfl k)))))))) ?_
      show GoH p e below s _ _ _ T1144 (mkF m 88 #[vi p1, vi p2, vi p3, .val cv1, .val cv2, vr uu63, vr uu74, vr b1109, vr uu77, .val cv4] [(.int p2), (.int p1), cv1, cv4, cv1, (.ref uu77)])
      obtain ⟨_, _, ⟨T1146, L1146, k1146, n1146⟩, -, X1146, ⟨Lc1146, hQ1146, l1146, y1146, z1146⟩, st1146⟩ := Jvm.LawKit.callS X1144 hx (y := xm36) hown1133 (mvT hZ1133 (tw173 hw)) (mvT hZ1133 (tw174 hw)) (mvT hZ1133 (tw2 hw)) (mvT hZ1133 (tw175 hw)) (by decide) (backOf (W := 0) (rm_ObjectRefToStringPinLaw_ok_0 l Z a0 hw [] uu77 ci1 ci4 ci1 p1 p2 cs uu78 uu79 ci4 ([(.int (nar .byte ((nar .char (own_ch p1 ci0)).toInt8.toInt32))), cv58, (.int (nar .byte ((nar .char (own_ch p2 ci0)).toInt8.toInt32))), (.int (nar .byte ((nar .char (own_ch p2 ci1)).toInt8.toInt32)))]) fv ci58 T1133.heap n0 f1141 (by decide) (by decide) rfl P1133_1 Z_S_COMPACT_STRINGS f1140 hcs P1133_2 P1133_3 f1139 Z_S_SIOOBE_FORMATTER hfv rfl (by decide) (by decide) (by decide)) hZ1133 (tw175 hw) (tw2 hw) (by decide) (by decide)) (g := (mkF m 88 #[vi p1, vi p2, vi p3, .val cv1, .val cv2, vr uu63, vr uu74, vr b1109, vr uu77, .val cv4] [(.int p2), (.int p1), cv1, cv4, cv1, (.ref uu77)])) rfl (by rw [hml]; rfl) (argsL := [(.ref uu77), cv1, cv4, cv1, (.int p1), (.int p2)]) (rest := []) (lenOf pd_24 rfl) rfl (Nat.le_of_eq rfl) (hb hby at_88) (fun _ _ => ⟨rfl, eq1144, (by decide : 13 + 0 ≤ _), (by decide : 64 + 0 ≤ _)⟩)
      dsimp only [Pt.U, Pt.locs, Pt.cells, Pt.slots] at X1146 l1146 y1146 z1146 st1146 hQ1146
      subst l1146 y1146 z1146
      obtain ⟨rfl, N1146q, eq1146⟩ := hQ1146
      have N1147 := Fr.app N1145 N1146q
      refine GoH.step (fun _ k => st1146 _ (XS.ifNo X1146.here hx rfl (hb hby at_91) rfl ((if0 _ _).trans (feq (by decide)).1) (XS.aload X1146.here hx rfl (hb hby at_94) rfl rfl (XS.iconst X1146.here hx rfl (hb hby at_96) (XS.iload X1146.here hx rfl (hb hby at_97) rfl (XS.iloadN X1146.here hx rfl (hb hby at_99) rfl (XS.iloadN X1146.here hx rfl (hb hby at_100) rfl (XS.iloadN X1146.here hx rfl (hb hby at_101) rfl k)))))))) ?_
      show GoH p e below s _ _ _ T1146 (mkF m 102 #[vi p1, vi p2, vi p3, .val cv1, .val cv2, vr uu63, vr uu74, vr b1109, vr uu77, .val cv4] [(.int p2), (.int p1), cv1, cv4, cv2, (.ref uu77)])
      obtain ⟨_, _, ⟨T1148, L1148, k1148, n1148⟩, -, X1148, ⟨Lc1148, hQ1148, l1148, y1148, z1148⟩, st1148⟩ := Jvm.LawKit.callS X1146 hx (y := xm36) hown1133 (mvT hZ1133 (tw173 hw)) (mvT hZ1133 (tw174 hw)) (mvT hZ1133 (tw2 hw)) (mvT hZ1133 (tw175 hw)) (by decide) (backOf (W := 0) (rm_ObjectRefToStringPinLaw_ok_2 l Z a0 hw [] uu77 ci2 ci4 ci1 p1 p2 uu78 uu79 ci4 ([(.int (nar .byte ((nar .char (own_ch p1 ci0)).toInt8.toInt32))), cv58, (.int (nar .byte ((nar .char (own_ch p2 ci0)).toInt8.toInt32))), (.int (nar .byte ((nar .char (own_ch p2 ci1)).toInt8.toInt32)))]) (nar .byte ((nar .char (own_ch p2 ci0)).toInt8.toInt32)) cs fv T1133.heap n0 f1141 (by decide) (by decide) (by decide) P1133_1 P1133_2 P1133_3 f1139 rfl Z_S_COMPACT_STRINGS Z_S_SIOOBE_FORMATTER f1140 hcs hfv (by decide) (by decide) (own_rt p2 ci0)) hZ1133 (tw175 hw) (tw2 hw) (by decide) (by decide)) (g := (mkF m 102 #[vi p1, vi p2, vi p3, .val cv1, .val cv2, vr uu63, vr uu74, vr b1109, vr uu77, .val cv4] [(.int p2), (.int p1), cv1, cv4, cv2, (.ref uu77)])) rfl (by rw [hml]; rfl) (argsL := [(.ref uu77), cv2, cv4, cv1, (.int p1), (.int p2)]) (rest := []) (lenOf pd_24 rfl) rfl (Nat.le_of_eq rfl) (hb hby at_102) (fun _ _ => ⟨rfl, eq1146, (by decide : 13 + 0 ≤ _), (by decide : 64 + 0 ≤ _)⟩)
      dsimp only [Pt.U, Pt.locs, Pt.cells, Pt.slots] at X1148 l1148 y1148 z1148 st1148 hQ1148
      subst l1148 y1148 z1148
      obtain ⟨rfl, N1148q, eq1148⟩ := hQ1148
      have N1149 := Fr.app N1147 N1148q
      refine GoH.step (fun _ k => st1148 _ (XS.ifNo X1148.here hx rfl (hb hby at_105) rfl ((if0 _ _).trans (feq (by decide)).1) (XS.aload X1148.here hx rfl (hb hby at_108) rfl rfl (XS.iconst X1148.here hx rfl (hb hby at_110) (XS.iload X1148.here hx rfl (hb hby at_111) rfl (XS.iloadN X1148.here hx rfl (hb hby at_113) rfl (XS.iloadN X1148.here hx rfl (hb hby at_114) rfl (XS.iloadN X1148.here hx rfl (hb hby at_115) rfl k)))))))) ?_
      show GoH p e below s _ _ _ T1148 (mkF m 116 #[vi p1, vi p2, vi p3, .val cv1, .val cv2, vr uu63, vr uu74, vr b1109, vr uu77, .val cv4] [(.int p2), (.int p1), cv1, cv4, cv3, (.ref uu77)])
      obtain ⟨_, _, ⟨T1150, L1150, k1150, n1150⟩, -, X1150, ⟨Lc1150, hQ1150, l1150, y1150, z1150⟩, st1150⟩ := Jvm.LawKit.callS X1148 hx (y := xm36) hown1133 (mvT hZ1133 (tw173 hw)) (mvT hZ1133 (tw174 hw)) (mvT hZ1133 (tw2 hw)) (mvT hZ1133 (tw175 hw)) (by decide) (backOf (W := 0) (rm_ObjectRefToStringPinLaw_ok_2 l Z a0 hw [] uu77 ci3 ci4 ci1 p1 p2 uu78 uu79 ci4 ([(.int (nar .byte ((nar .char (own_ch p1 ci0)).toInt8.toInt32))), cv58, (.int (nar .byte ((nar .char (own_ch p2 ci0)).toInt8.toInt32))), (.int (nar .byte ((nar .char (own_ch p2 ci1)).toInt8.toInt32)))]) (nar .byte ((nar .char (own_ch p2 ci1)).toInt8.toInt32)) cs fv T1133.heap n0 f1141 (by decide) (by decide) (by decide) P1133_1 P1133_2 P1133_3 f1139 rfl Z_S_COMPACT_STRINGS Z_S_SIOOBE_FORMATTER f1140 hcs hfv (by decide) (by decide) (own_rt p2 ci1)) hZ1133 (tw175 hw) (tw2 hw) (by decide) (by decide)) (g := (mkF m 116 #[vi p1, vi p2, vi p3, .val cv1, .val cv2, vr uu63, vr uu74, vr b1109, vr uu77, .val cv4] [(.int p2), (.int p1), cv1, cv4, cv3, (.ref uu77)])) rfl (by rw [hml]; rfl) (argsL := [(.ref uu77), cv3, cv4, cv1, (.int p1), (.int p2)]) (rest := []) (lenOf pd_24 rfl) rfl (Nat.le_of_eq rfl) (hb hby at_116) (fun _ _ => ⟨rfl, eq1148, (by decide : 13 + 0 ≤ _), (by decide : 64 + 0 ≤ _)⟩)
      dsimp only [Pt.U, Pt.locs, Pt.cells, Pt.slots] at X1150 l1150 y1150 z1150 st1150 hQ1150
      subst l1150 y1150 z1150
      obtain ⟨rfl, N1150q, eq1150⟩ := hQ1150
      have N1151 := Fr.app N1149 N1150q
      refine GoH.step (fun _ k => st1150 _ (XS.ifNo X1150.here hx rfl (hb hby at_119) rfl ((if0 _ _).trans (feq (by decide)).1) (XS.aload X1150.here hx rfl (hb hby at_122) rfl rfl (XS.iconst X1150.here hx rfl (hb hby at_124) (XS.iload X1150.here hx rfl (hb hby at_125) rfl (XS.iloadN X1150.here hx rfl (hb hby at_127) rfl (XS.iloadN X1150.here hx rfl (hb hby at_128) rfl (XS.iloadN X1150.here hx rfl (hb hby at_129) rfl k)))))))) ?_
      show GoH p e below s _ _ _ T1150 (mkF m 130 #[vi p1, vi p2, vi p3, .val cv1, .val cv2, vr uu63, vr uu74, vr b1109, vr uu77, .val cv4] [(.int p2), (.int p1), cv1, cv4, cv4, (.ref uu77)])
      obtain ⟨_, _, ⟨T1152, L1152, k1152, n1152⟩, -, X1152, ⟨Lc1152, hQ1152, l1152, y1152, z1152⟩, st1152⟩ := Jvm.LawKit.callS X1150 hx (y := xm36) hown1133 (mvT hZ1133 (tw173 hw)) (mvT hZ1133 (tw174 hw)) (mvT hZ1133 (tw2 hw)) (mvT hZ1133 (tw175 hw)) (by decide) (backOf (W := 0) (rm_ObjectRefToStringPinLaw_ok_1 l Z a0 hw [] uu77 ci4 ci4 ci1 p1 p2 T1133.heap n0 f1141 (by decide)) hZ1133 (tw175 hw) (tw2 hw) (by decide) (by decide)) (g := (mkF m 130 #[vi p1, vi p2, vi p3, .val cv1, .val cv2, vr uu63, vr uu74, vr b1109, vr uu77, .val cv4] [(.int p2), (.int p1), cv1, cv4, cv4, (.ref uu77)])) rfl (by rw [hml]; rfl) (argsL := [(.ref uu77), cv4, cv4, cv1, (.int p1), (.int p2)]) (rest := []) (lenOf pd_24 rfl) rfl (Nat.le_of_eq rfl) (hb hby at_130) (fun _ _ => ⟨rfl, eq1150, (by decide : 13 + 0 ≤ _), (by decide : 64 + 0 ≤ _)⟩)
      dsimp only [Pt.U, Pt.locs, Pt.cells, Pt.slots] at X1152 l1152 y1152 z1152 st1152 hQ1152
      subst l1152 y1152 z1152
      obtain ⟨rfl, N1152q, eq1152⟩ := hQ1152
      have N1153 := Fr.app N1151 N1152q
      refine GoH.step (fun _ k => st1152 _ (XS.ifNo X1152.here hx rfl (hb hby at_133) rfl ((if0 _ _).trans (feq (by decide)).1) (XS.aload X1152.here hx rfl (hb hby at_136) rfl rfl (XS.iconst X1152.here hx rfl (hb hby at_138) (XS.iload X1152.here hx rfl (hb hby at_139) rfl (XS.iloadN X1152.here hx rfl (hb hby at_141) rfl (XS.iloadN X1152.here hx rfl (hb hby at_142) rfl (XS.iloadN X1152.here hx rfl (hb hby at_143) rfl k)))))))) ?_
      show GoH p e below s _ _ _ T1152 (mkF m 144 #[vi p1, vi p2, vi p3, .val cv1, .val cv2, vr uu63, vr uu74, vr b1109, vr uu77, .val cv4] [(.int p2), (.int p1), cv1, cv4, cv5, (.ref uu77)])
      obtain ⟨_, _, ⟨T1154, L1154, k1154, n1154⟩, -, X1154, ⟨Lc1154, hQ1154, l1154, y1154, z1154⟩, st1154⟩ := Jvm.LawKit.callS X1152 hx (y := xm36) hown1133 (mvT hZ1133 (tw173 hw)) (mvT hZ1133 (tw174 hw)) (mvT hZ1133 (tw2 hw)) (mvT hZ1133 (tw175 hw)) (by decide) (backOf (W := 0) (rm_ObjectRefToStringPinLaw_ok_1 l Z a0 hw [] uu77 ci5 ci4 ci1 p1 p2 T1133.heap n0 f1141 (by decide)) hZ1133 (tw175 hw) (tw2 hw) (by decide) (by decide)) (g := (mkF m 144 #[vi p1, vi p2, vi p3, .val cv1, .val cv2, vr uu63, vr uu74, vr b1109, vr uu77, .val cv4] [(.int p2), (.int p1), cv1, cv4, cv5, (.ref uu77)])) rfl (by rw [hml]; rfl) (argsL := [(.ref uu77), cv5, cv4, cv1, (.int p1), (.int p2)]) (rest := []) (lenOf pd_24 rfl) rfl (Nat.le_of_eq rfl) (hb hby at_144) (fun _ _ => ⟨rfl, eq1152, (by decide : 13 + 0 ≤ _), (by decide : 64 + 0 ≤ _)⟩)
      dsimp only [Pt.U, Pt.locs, Pt.cells, Pt.slots] at X1154 l1154 y1154 z1154 st1154 hQ1154
      subst l1154 y1154 z1154
      obtain ⟨rfl, N1154q, eq1154⟩ := hQ1154
      have N1155 := Fr.app N1153 N1154q
      refine GoH.step (fun _ k => st1154 _ (XS.ifNo X1154.here hx rfl (hb hby at_147) rfl ((if0 _ _).trans (feq (by decide)).1) (XS.aload X1154.here hx rfl (hb hby at_150) rfl rfl (XS.bipush X1154.here hx rfl (hb hby at_152) (XS.iload X1154.here hx rfl (hb hby at_154) rfl (XS.iloadN X1154.here hx rfl (hb hby at_156) rfl (XS.iloadN X1154.here hx rfl (hb hby at_157) rfl (XS.iloadN X1154.here hx rfl (hb hby at_158) rfl k)))))))) ?_
      show GoH p e below s _ _ _ T1154 (mkF m 159 #[vi p1, vi p2, vi p3, .val cv1, .val cv2, vr uu63, vr uu74, vr b1109, vr uu77, .val cv4] [(.int p2), (.int p1), cv1, cv4, cv6, (.ref uu77)])
      obtain ⟨_, _, ⟨T1156, L1156, k1156, n1156⟩, -, X1156, ⟨Lc1156, hQ1156, l1156, y1156, z1156⟩, st1156⟩ := Jvm.LawKit.callS X1154 hx (y := xm36) hown1133 (mvT hZ1133 (tw173 hw)) (mvT hZ1133 (tw174 hw)) (mvT hZ1133 (tw2 hw)) (mvT hZ1133 (tw175 hw)) (by decide) (backOf (W := 0) (rm_ObjectRefToStringPinLaw_ok_1 l Z a0 hw [] uu77 ci6 ci4 ci1 p1 p2 T1133.heap n0 f1141 (by decide)) hZ1133 (tw175 hw) (tw2 hw) (by decide) (by decide)) (g := (mkF m 159 #[vi p1, vi p2, vi p3, .val cv1, .val cv2, vr uu63, vr uu74, vr b1109, vr uu77, .val cv4] [(.int p2), (.int p1), cv1, cv4, cv6, (.ref uu77)])) rfl (by rw [hml]; rfl) (argsL := [(.ref uu77), cv6, cv4, cv1, (.int p1), (.int p2)]) (rest := []) (lenOf pd_24 rfl) rfl (Nat.le_of_eq rfl) (hb hby at_159) (fun _ _ => ⟨rfl, eq1154, (by decide : 13 + 0 ≤ _), (by decide : 64 + 0 ≤ _)⟩)
      dsimp only [Pt.U, Pt.locs, Pt.cells, Pt.slots] at X1156 l1156 y1156 z1156 st1156 hQ1156
      subst l1156 y1156 z1156
      obtain ⟨rfl, N1156q, eq1156⟩ := hQ1156
      have N1157 := Fr.app N1155 N1156q
      refine GoH.step (fun _ k => st1156 _ (XS.ifNo X1156.here hx rfl (hb hby at_162) rfl ((if0 _ _).trans (feq (by decide)).1) (XS.iconst X1156.here hx rfl (hb hby at_165) (XS.goto X1156.here hx rfl (pc0 := 166) (pc' := 170) rfl (hb hby at_166) (by decide) (by decide) k)))) ?_
      show GoH p e below s _ _ _ T1156 (mkF m 170 #[vi p1, vi p2, vi p3, .val cv1, .val cv2, vr uu63, vr uu74, vr b1109, vr uu77, .val cv4] [cv1])
      exact GoH.retN X1156 hS1133 hx hlk (t := .boolean) Bd.returns (by simp) (hb hby at_170) eq1156 (Nat.le_refl _) ⟨rfl, N1157⟩ (f1138.trans (CHv.at X1156 hZ1133 (own_EW hw) f1138.1)) (by decide) (by decide)
    · show GoH p e below s _ _ _ T978 (mkF m 21 #[vi p1, vi p2, vi p3, .val cv1, .val cv3, vr uu63, .unset, .unset, .unset, .unset] [cv3, (.int p2)])
      have f1158 := (O0.keep K978 all0)
      have f1159 := (Nat.le_trans Z0 K978.1)
      obtain ⟨_, _, ⟨T1160, L1160, k1160, n1160⟩, -, X1160s, hs1160, hg1160, ⟨Lc1160, hQ1160, l1160, y1160, z1160, ch1160⟩, st1160⟩ := callSS X978 hx (y := xm33) hown978 (mvT hZ978 (tw0 hw)) (mvT hZ978 (tw1 hw)) (mvT hZ978 (tw2 hw)) (mvT hZ978 (tw3 hw)) (by decide) (backOfSH (W := 0) (rm_ObjectRefToStringPinLaw_make_3 l Z a0 hw [] p2 cs T978.heap n0 f1159 Z_S_COMPACT_STRINGS f1158 hcs (own_c2 p2 ci0) (own_c2 p2 ci1) (own_c2 p2 ci2)) hZ978 (tw3 hw) (tw2 hw) (by decide) (by decide) (own_EW hw) f980.1) (g := (mkF m 21 #[vi p1, vi p2, vi p3, .val cv1, .val cv3, vr uu63, .unset, .unset, .unset, .unset] [cv3, (.int p2)])) rfl (by rw [hml]; rfl) (argsL := [(.int p2), cv3]) (rest := []) (lenOf pd_3 rfl) rfl (Nat.le_of_eq rfl) (hb hby at_21) (fun _ _ => ⟨rfl, rfl, (by decide : 3 + 3 ≤ _), (by decide : 6 + 10 ≤ _)⟩)
      dsimp only [Pt.U, Pt.locs, Pt.cells, Pt.slots] at X1160s hs1160 hg1160 l1160 y1160 z1160 st1160 hQ1160 ch1160
      subst l1160 y1160 z1160
      obtain ⟨X1160, hS1160, hZ1160, hown1160⟩ := rebS hS978 (by exact (Nat.le_refl _)) X1160s hs1160 hg1160 hZ978 hown978
      obtain ⟨uu80, uu81, uu82, rfl, N1160q, K1160, P1160_0, P1160_1, P1160_2, P1160_3, P1160_4, P1160_5, P1160_6⟩ := hQ1160
      have N1161 := Fr.app N979 N1160q
      have f1162 := f980.trans ch1160
      refine GoH.step (fun _ k => st1160.trans (XS.astore X1160.here hx rfl (hb hby at_24) rfl rfl (l' := #[vi p1, vi p2, vi p3, .val cv1, .val cv3, vr uu63, vr uu80, .unset, .unset, .unset]) rfl k)) ?_
      show GoH p e below s _ _ _ T1160 (mkF m 26 #[vi p1, vi p2, vi p3, .val cv1, .val cv3, vr uu63, vr uu80, .unset, .unset, .unset] [])
      obtain ⟨T1163, h1163, X1163, e1163, E1163, A1163, D1163, -, st1163⟩ := newO X1160 hx hZ1160 hown1160 (tw40 hw) (tw41 hw) (tw42 hw) rfl (g := (mkF m 26 #[vi p1, vi p2, vi p3, .val cv1, .val cv3, vr uu63, vr uu80, .unset, .unset, .unset] [])) rfl (hb hby at_26) (by decide) (by decide)
      obtain ⟨b1163, g1163⟩ : ∃ z, z = T1160.heap.size := ⟨_, rfl⟩
      rw [← g1163] at A1163 D1163 st1163
      have f1164 : Fld Z h1163 b1163 xs3 "type" xs21 .null := D1163 (Or.inr (tw53 hw)) (ty := (.object xs25)) (by decide)
      have f1165 : Fld Z h1163 b1163 xs3 "id" xs21 .null := D1163 (Or.inr (tw55 hw)) (ty := (.object xs25)) (by decide)
      refine GoH.step (fun _ k => st1163 _ (XS.dup X1163.here hx rfl (hb hby at_29) rfl rfl (XS.aload X1163.here hx rfl (hb hby at_30) rfl rfl (XS.aload X1163.here hx rfl (hb hby at_32) rfl rfl k)))) ?_
      show GoH p e below s _ _ _ T1163 (mkF m 34 #[vi p1, vi p2, vi p3, .val cv1, .val cv3, vr uu63, vr uu80, .unset, .unset, .unset] [(.ref uu80), (.ref uu63), (.ref b1163), (.ref b1163)])
      have f1166 := (Nat.le_trans (Nat.le_trans f1159 K1160.1) E1163.1)
      have f1167 := (Nat.le_trans f1159 K1160.1)
      have g1168 := Nat.le_trans f1167 (Nat.le_of_eq g1163.symm)
      obtain ⟨_, _, ⟨T1169, L1169, k1169, n1169⟩, -, X1169, ⟨Lc1169, hQ1169, l1169, y1169, z1169⟩, st1169⟩ := X1163.specialBack hx (y := xm31) rfl hown1160 (mvT hZ1160 (tw43 hw)) (mvT hZ1160 (tw44 hw)) (mvT hZ1160 (tw45 hw)) (by decide) (backOf (W := 1) (rm_ObjectRef_new_0 l Z a0 hw [] b1163 uu63 uu80 h1163 n0 f1166 A1163 f1164 g1168 f1165) hZ1160 (tw45 hw) (tw42 hw) (by decide) (by decide)) (g := (mkF m 34 #[vi p1, vi p2, vi p3, .val cv1, .val cv3, vr uu63, vr uu80, .unset, .unset, .unset] [(.ref uu80), (.ref uu63), (.ref b1163), (.ref b1163)])) rfl (by rw [hml]; rfl) (Steps.refl _) (a := b1163) (argsL := [(.ref uu63), (.ref uu80)]) (rest := [(.ref b1163)]) (lenOf pd_5 rfl) rfl (Nat.le_of_eq rfl) (hb hby at_34) (fun _ _ => ⟨rfl, e1163, (by decide : 7 + 0 ≤ _), (by decide : 18 + 0 ≤ _)⟩)
      dsimp only [Pt.U, Pt.locs, Pt.cells, Pt.slots] at X1169 l1169 y1169 z1169 st1169 hQ1169
      subst l1169 y1169 z1169
      obtain ⟨rfl, N1169q, K1169, P1169_0, P1169_1⟩ := hQ1169
      have N1170 := Fr.app N1161 N1169q
      refine GoH.step (fun _ k => st1169.trans (XS.astore X1169.here hx rfl (hb hby at_37) rfl rfl (l' := #[vi p1, vi p2, vi p3, .val cv1, .val cv3, vr uu63, vr uu80, vr b1163, .unset, .unset]) rfl (XS.aload X1169.here hx rfl (hb hby at_39) rfl rfl k))) ?_
      show GoH p e below s _ _ _ T1169 (mkF m 41 #[vi p1, vi p2, vi p3, .val cv1, .val cv3, vr uu63, vr uu80, vr b1163, .unset, .unset] [(.ref b1163)])
      have f1171 := (((f1158.keep K1160 all0).ext E1163).keep K1169 (allS g1168 all0))
      have f1172 := (Nat.le_trans f1166 K1169.1)
      have f1173 := (((P978_1.keep K1160).ext E1163).keep K1169)
      have f1174 := (P978_1.keep K1160)
      have ne1175 : uu63 ≠ b1163 := Nat.ne_of_lt (Nat.lt_of_lt_of_le f1174.lt (Nat.le_of_eq g1163.symm))
      have f1176 := (((P978_3.keep K1160 nin0).ext E1163).keep K1169 (ninS ne1175 nin0))
      have f1177 := (P978_5.keep K1160 nin0)
      have ne1178 : uu64 ≠ b1163 := Nat.ne_of_lt (Nat.lt_of_lt_of_le f1177.lt (Nat.le_of_eq g1163.symm))
      have f1179 := (((P978_5.keep K1160 nin0).ext E1163).keep K1169 (ninS ne1178 nin0))
      have f1180 := (((P978_2.keep K1160 nin0).ext E1163).keep K1169 (ninS ne1175 nin0))
      have f1181 := ((P1160_1.ext E1163).keep K1169)
      have ne1182 : uu80 ≠ b1163 := Nat.ne_of_lt (Nat.lt_of_lt_of_le P1160_1.lt (Nat.le_of_eq g1163.symm))
      have f1183 := ((P1160_3.ext E1163).keep K1169 (ninS ne1182 nin0))
      have ne1184 : uu81 ≠ b1163 := Nat.ne_of_lt (Nat.lt_of_lt_of_le P1160_5.lt (Nat.le_of_eq g1163.symm))
      have f1185 := ((P1160_5.ext E1163).keep K1169 (ninS ne1184 nin0))
      have f1186 := ((P1160_2.ext E1163).keep K1169 (ninS ne1182 nin0))
      have f1188 := (own_chK (own_chE f1162 E1163) K1169 (sfS (Safe.exa hZ1160.alike A1163 (by decide) (by decide)) sf0))
      have f1189 := (A1163.keep K1169)
      obtain ⟨cq1187, kq1187, q1187a, q1187b, q1187c⟩ := isOf hZ1160 rfl f1189
      obtain ⟨_, _, ⟨T1187, L1187, k1187, n1187⟩, -, X1187s, hs1187, hg1187, ⟨Lc1187, hQ1187, l1187, y1187, z1187, ch1187⟩, st1187⟩ := X1169.virtualBackS hx (y := xm21) (z := xm21) hown1160 (mvT hZ1160 (tw56 hw)) (mvT hZ1160 (tw57 hw)) (notFace_of_selects (args := #[]) (mvT hZ1160 (tw59 hw))) (mvT hZ1160 (tw59 hw)) (mvT hZ1160 (tw58 hw)) (by decide) (backOfSH (W := 0) (rm_ObjectRef_toString_0 l Z a0 hw [] b1163 cs uu63 uu64 uu65 ci1 ([(.int (nar .byte ((nar .char (own_ch p1 ci0)).toInt8.toInt32)))]) uu80 uu81 uu82 ci3 ([(.int (nar .byte ((nar .char (own_ch p2 ci0)).toInt8.toInt32))), (.int (nar .byte ((nar .char (own_ch p2 ci1)).toInt8.toInt32))), (.int (nar .byte ((nar .char (own_ch p2 ci2)).toInt8.toInt32)))]) T1169.heap n0 f1172 Z_S_COMPACT_STRINGS f1171 hcs P1169_0 f1173 f1176 f1179 f1180 (by decide) (by decide) (Nat.le_of_ble_eq_true rfl) (Nat.le_of_ble_eq_true rfl) (Nat.le_of_ble_eq_true rfl) (by decide) (by decide) (Nat.le_of_ble_eq_true rfl) (Nat.le_of_ble_eq_true rfl) P1169_1 f1181 f1183 f1185 f1186 (by decide) (by decide) (by decide) (Nat.le_of_ble_eq_true rfl) (Nat.le_of_ble_eq_true rfl) (Nat.le_of_ble_eq_true rfl) (by decide) (by decide) (by decide) (Nat.le_of_ble_eq_true rfl) (by decide) (Nat.le_of_ble_eq_true rfl) (Nat.le_of_ble_eq_true rfl) (Nat.le_of_ble_eq_true rfl)) hZ1160 (tw60 hw) (tw42 hw) (by decide) (by decide) (own_EW hw) f1188.1) q1187a q1187c (g := (mkF m 41 #[vi p1, vi p2, vi p3, .val cv1, .val cv3, vr uu63, vr uu80, vr b1163, .unset, .unset] [(.ref b1163)])) rfl (by rw [hml]; rfl) (Steps.refl _) (argsL := []) (rest := []) (lenOf pd_21 rfl) rfl (Nat.le_of_eq rfl) (hb hby at_41) (fun _ _ => ⟨rfl, rfl, (by decide : 7 + 6 ≤ _), (by decide : 18 + 48 ≤ _)⟩)
      dsimp only [Pt.U, Pt.locs, Pt.cells, Pt.slots] at X1187s hs1187 hg1187 l1187 y1187 z1187 st1187 hQ1187 ch1187
      subst l1187 y1187 z1187
      have f1190 := (Nat.le_trans (Nat.le_trans (Nat.le_refl _) E1163.1) K1169.1)
      obtain ⟨X1187, hS1187, hZ1187, hown1187⟩ := rebS hS1160 (by exact f1190) X1187s hs1187 hg1187 hZ1160 hown1160
      obtain ⟨uu83, uu84, uu85, rfl, N1187q, K1187, P1187_0, P1187_1, P1187_2, P1187_3, P1187_4, P1187_5, P1187_6⟩ := hQ1187
      have N1191 := Fr.app N1170 N1187q
      have f1192 := f1188.trans ch1187
      refine GoH.step (fun _ k => st1187.trans k) ?_
      show GoH p e below s _ _ _ T1187 (mkF m 44 #[vi p1, vi p2, vi p3, .val cv1, .val cv3, vr uu63, vr uu80, vr b1163, .unset, .unset] [(.ref uu83)])
      have f1193 : Arv Z T1187.heap uu84 uu85 .byte ci5 [(.int (nar .byte ((nar .char (own_ch p1 ci0)).toInt8.toInt32))), cv58, (.int (nar .byte ((nar .char (own_ch p2 ci0)).toInt8.toInt32))), (.int (nar .byte ((nar .char (own_ch p2 ci1)).toInt8.toInt32))), (.int (nar .byte ((nar .char (own_ch p2 ci2)).toInt8.toInt32)))] cv0 := P1187_5
      refine GoH.step (fun _ k => XS.astore X1187.here hx rfl (hb hby at_44) rfl rfl (l' := #[vi p1, vi p2, vi p3, .val cv1, .val cv3, vr uu63, vr uu80, vr b1163, vr uu83, .unset]) rfl (XS.iloadN X1187.here hx rfl (hb hby at_46) rfl (XS.iconst X1187.here hx rfl (hb hby at_47) (XS.iadd X1187.here hx rfl (hb hby at_48) rfl (XS.iload X1187.here hx rfl (hb hby at_49) rfl (XS.iadd X1187.here hx rfl (hb hby at_51) rfl (XS.istore X1187.here hx rfl (hb hby at_52) rfl (l' := #[vi p1, vi p2, vi p3, .val cv1, .val cv3, vr uu63, vr uu80, vr b1163, vr uu83, .val cv5]) rfl (XS.aload X1187.here hx rfl (hb hby at_54) rfl rfl k)))))))) ?_
      show GoH p e below s _ _ _ T1187 (mkF m 56 #[vi p1, vi p2, vi p3, .val cv1, .val cv3, vr uu63, vr uu80, vr b1163, vr uu83, .val cv5] [(.ref uu83)])
      have f1194 := (f1171.keep K1187 all0)
      have f1195 := (Nat.le_trans f1172 K1187.1)
      obtain ⟨cq1196, kq1196, q1196a, q1196b, q1196c⟩ := isOf hZ1187 rfl P1187_1
      obtain ⟨_, _, ⟨T1196, L1196, k1196, n1196⟩, -, X1196, ⟨Lc1196, hQ1196, l1196, y1196, z1196⟩, st1196⟩ := X1187.virtualBack hx (y := xm19) (z := xm19) hown1187 (mvT hZ1187 (tw172 hw)) (mvT hZ1187 (tw90 hw)) (notFace_of_selects (args := #[]) (mvT hZ1187 (tw92 hw))) (mvT hZ1187 (tw92 hw)) (mvT hZ1187 (tw91 hw)) (by decide) (backOf (W := 0) (rm_String_length_0 l Z a0 hw [] uu83 uu84 uu85 ci5 ([(.int (nar .byte ((nar .char (own_ch p1 ci0)).toInt8.toInt32))), cv58, (.int (nar .byte ((nar .char (own_ch p2 ci0)).toInt8.toInt32))), (.int (nar .byte ((nar .char (own_ch p2 ci1)).toInt8.toInt32))), (.int (nar .byte ((nar .char (own_ch p2 ci2)).toInt8.toInt32)))]) cs T1187.heap n0 f1195 P1187_3 f1193 P1187_1 Z_S_COMPACT_STRINGS f1194 hcs P1187_2) hZ1187 (tw93 hw) (tw6 hw) (by decide) (by decide)) q1196a q1196c (g := (mkF m 56 #[vi p1, vi p2, vi p3, .val cv1, .val cv3, vr uu63, vr uu80, vr b1163, vr uu83, .val cv5] [(.ref uu83)])) rfl (by rw [hml]; rfl) (Steps.refl _) (argsL := []) (rest := []) (lenOf pd_8 rfl) rfl (Nat.le_of_eq rfl) (hb hby at_56) (fun _ _ => ⟨rfl, rfl, (by decide : 13 + 0 ≤ _), (by decide : 66 + 0 ≤ _)⟩)
      dsimp only [Pt.U, Pt.locs, Pt.cells, Pt.slots] at X1196 l1196 y1196 z1196 st1196 hQ1196
      subst l1196 y1196 z1196
      obtain ⟨rfl, N1196q, eq1196⟩ := hQ1196
      have N1197 := Fr.app N1191 N1196q
      refine GoH.step (fun _ k => st1196.trans (XS.iload X1196.here hx rfl (hb hby at_59) rfl (XS.icmpYes X1196.here hx rfl (pc0 := 61) (pc' := 66) rfl (hb hby at_61) rfl (teq (by decide)).1 (by decide) (by decide) (XS.aload X1196.here hx rfl (hb hby at_66) rfl rfl (XS.iconst X1196.here hx rfl (hb hby at_68) (XS.iload X1196.here hx rfl (hb hby at_69) rfl (XS.iloadN X1196.here hx rfl (hb hby at_71) rfl (XS.iloadN X1196.here hx rfl (hb hby at_72) rfl (XS.iloadN X1196.here hx rfl (hb hby at_73) rfl k))))))))) ?_
      show GoH p e below s _ _ _ T1196 (mkF m 74 #[vi p1, vi p2, vi p3, .val cv1, .val cv3, vr uu63, vr uu80, vr b1163, vr uu83, .val cv5] [(.int p2), (.int p1), cv1, cv5, cv0, (.ref uu83)])
      obtain ⟨_, _, ⟨T1198, L1198, k1198, n1198⟩, -, X1198, ⟨Lc1198, hQ1198, l1198, y1198, z1198⟩, st1198⟩ := Jvm.LawKit.callS X1196 hx (y := xm36) hown1187 (mvT hZ1187 (tw173 hw)) (mvT hZ1187 (tw174 hw)) (mvT hZ1187 (tw2 hw)) (mvT hZ1187 (tw175 hw)) (by decide) (backOf (W := 0) (rm_ObjectRefToStringPinLaw_ok_3 l Z a0 hw [] uu83 ci0 ci5 ci1 p1 p2 uu84 uu85 ci5 ([(.int (nar .byte ((nar .char (own_ch p1 ci0)).toInt8.toInt32))), cv58, (.int (nar .byte ((nar .char (own_ch p2 ci0)).toInt8.toInt32))), (.int (nar .byte ((nar .char (own_ch p2 ci1)).toInt8.toInt32))), (.int (nar .byte ((nar .char (own_ch p2 ci2)).toInt8.toInt32)))]) (nar .byte ((nar .char (own_ch p1 ci0)).toInt8.toInt32)) cs fv T1187.heap n0 f1195 (by decide) (by decide) P1187_1 P1187_2 P1187_3 f1193 rfl Z_S_COMPACT_STRINGS Z_S_SIOOBE_FORMATTER f1194 hcs hfv (by decide) (by decide) (own_rt p1 ci0)) hZ1187 (tw175 hw) (tw2 hw) (by decide) (by decide)) (g := (mkF m 74 #[vi p1, vi p2, vi p3, .val cv1, .val cv3, vr uu63, vr uu80, vr b1163, vr uu83, .val cv5] [(.int p2), (.int p1), cv1, cv5, cv0, (.ref uu83)])) rfl (by rw [hml]; rfl) (argsL := [(.ref uu83), cv0, cv5, cv1, (.int p1), (.int p2)]) (rest := []) (lenOf pd_24 rfl) rfl (Nat.le_of_eq rfl) (hb hby at_74) (fun _ _ => ⟨rfl, eq1196, (by decide : 13 + 0 ≤ _), (by decide : 66 + 0 ≤ _)⟩)
      dsimp only [Pt.U, Pt.locs, Pt.cells, Pt.slots] at X1198 l1198 y1198 z1198 st1198 hQ1198
      subst l1198 y1198 z1198
      obtain ⟨rfl, N1198q, eq1198⟩ := hQ1198
      have N1199 := Fr.app N1197 N1198q
      refine GoH.step (fun _ k => st1198 _ (XS.ifNo X1198.here hx rfl (hb hby at_77) rfl ((if0 _ _).trans (feq (by decide)).1) (XS.aload X1198.here hx rfl (hb hby at_80) rfl rfl (XS.iconst X1198.here hx rfl (hb hby at_82) (XS.iload X1198.here hx rfl (hb hby at_83) rfl (XS.iloadN X1198.here hx rfl (hb hby at_85) rfl (XS.iloadN X1198.here hx rfl (hb hby at_86) rfl (XS.iloadN X1198.here hx rfl (hb hby at_87) rfl k)))))))) ?_
      show GoH p e below s _ _ _ T1198 (mkF m 88 #[vi p1, vi p2, vi p3, .val cv1, .val cv3, vr uu63, vr uu80, vr b1163, vr uu83, .val cv5] [(.int p2), (.int p1), cv1, cv5, cv1, (.ref uu83)])
      obtain ⟨_, _, ⟨T1200, L1200, k1200, n1200⟩, -, X1200, ⟨Lc1200, hQ1200, l1200, y1200, z1200⟩, st1200⟩ := Jvm.LawKit.callS X1198 hx (y := xm36) hown1187 (mvT hZ1187 (tw173 hw)) (mvT hZ1187 (tw174 hw)) (mvT hZ1187 (tw2 hw)) (mvT hZ1187 (tw175 hw)) (by decide) (backOf (W := 0) (rm_ObjectRefToStringPinLaw_ok_0 l Z a0 hw [] uu83 ci1 ci5 ci1 p1 p2 cs uu84 uu85 ci5 ([(.int (nar .byte ((nar .char (own_ch p1 ci0)).toInt8.toInt32))), cv58, (.int (nar .byte ((nar .char (own_ch p2 ci0)).toInt8.toInt32))), (.int (nar .byte ((nar .char (own_ch p2 ci1)).toInt8.toInt32))), (.int (nar .byte ((nar .char (own_ch p2 ci2)).toInt8.toInt32)))]) fv ci58 T1187.heap n0 f1195 (by decide) (by decide) rfl P1187_1 Z_S_COMPACT_STRINGS f1194 hcs P1187_2 P1187_3 f1193 Z_S_SIOOBE_FORMATTER hfv rfl (by decide) (by decide) (by decide)) hZ1187 (tw175 hw) (tw2 hw) (by decide) (by decide)) (g := (mkF m 88 #[vi p1, vi p2, vi p3, .val cv1, .val cv3, vr uu63, vr uu80, vr b1163, vr uu83, .val cv5] [(.int p2), (.int p1), cv1, cv5, cv1, (.ref uu83)])) rfl (by rw [hml]; rfl) (argsL := [(.ref uu83), cv1, cv5, cv1, (.int p1), (.int p2)]) (rest := []) (lenOf pd_24 rfl) rfl (Nat.le_of_eq rfl) (hb hby at_88) (fun _ _ => ⟨rfl, eq1198, (by decide : 13 + 0 ≤ _), (by decide : 66 + 0 ≤ _)⟩)
      dsimp only [Pt.U, Pt.locs, Pt.cells, Pt.slots] at X1200 l1200 y1200 z1200 st1200 hQ1200
      subst l1200 y1200 z1200
      obtain ⟨rfl, N1200q, eq1200⟩ := hQ1200
      have N1201 := Fr.app N1199 N1200q
      refine GoH.step (fun _ k => st1200 _ (XS.ifNo X1200.here hx rfl (hb hby at_91) rfl ((if0 _ _).trans (feq (by decide)).1) (XS.aload X1200.here hx rfl (hb hby at_94) rfl rfl (XS.iconst X1200.here hx rfl (hb hby at_96) (XS.iload X1200.here hx rfl (hb hby at_97) rfl (XS.iloadN X1200.here hx rfl (hb hby at_99) rfl (XS.iloadN X1200.here hx rfl (hb hby at_100) rfl (XS.iloadN X1200.here hx rfl (hb hby at_101) rfl k)))))))) ?_
      show GoH p e below s _ _ _ T1200 (mkF m 102 #[vi p1, vi p2, vi p3, .val cv1, .val cv3, vr uu63, vr uu80, vr b1163, vr uu83, .val cv5] [(.int p2), (.int p1), cv1, cv5, cv2, (.ref uu83)])
      obtain ⟨_, _, ⟨T1202, L1202, k1202, n1202⟩, -, X1202, ⟨Lc1202, hQ1202, l1202, y1202, z1202⟩, st1202⟩ := Jvm.LawKit.callS X1200 hx (y := xm36) hown1187 (mvT hZ1187 (tw173 hw)) (mvT hZ1187 (tw174 hw)) (mvT hZ1187 (tw2 hw)) (mvT hZ1187 (tw175 hw)) (by decide) (backOf (W := 0) (rm_ObjectRefToStringPinLaw_ok_2 l Z a0 hw [] uu83 ci2 ci5 ci1 p1 p2 uu84 uu85 ci5 ([(.int (nar .byte ((nar .char (own_ch p1 ci0)).toInt8.toInt32))), cv58, (.int (nar .byte ((nar .char (own_ch p2 ci0)).toInt8.toInt32))), (.int (nar .byte ((nar .char (own_ch p2 ci1)).toInt8.toInt32))), (.int (nar .byte ((nar .char (own_ch p2 ci2)).toInt8.toInt32)))]) (nar .byte ((nar .char (own_ch p2 ci0)).toInt8.toInt32)) cs fv T1187.heap n0 f1195 (by decide) (by decide) (by decide) P1187_1 P1187_2 P1187_3 f1193 rfl Z_S_COMPACT_STRINGS Z_S_SIOOBE_FORMATTER f1194 hcs hfv (by decide) (by decide) (own_rt p2 ci0)) hZ1187 (tw175 hw) (tw2 hw) (by decide) (by decide)) (g := (mkF m 102 #[vi p1, vi p2, vi p3, .val cv1, .val cv3, vr uu63, vr uu80, vr b1163, vr uu83, .val cv5] [(.int p2), (.int p1), cv1, cv5, cv2, (.ref uu83)])) rfl (by rw [hml]; rfl) (argsL := [(.ref uu83), cv2, cv5, cv1, (.int p1), (.int p2)]) (rest := []) (lenOf pd_24 rfl) rfl (Nat.le_of_eq rfl) (hb hby at_102) (fun _ _ => ⟨rfl, eq1200, (by decide : 13 + 0 ≤ _), (by decide : 66 + 0 ≤ _)⟩)
      dsimp only [Pt.U, Pt.locs, Pt.cells, Pt.slots] at X1202 l1202 y1202 z1202 st1202 hQ1202
      subst l1202 y1202 z1202
      obtain ⟨rfl, N1202q, eq1202⟩ := hQ1202
      have N1203 := Fr.app N1201 N1202q
      refine GoH.step (fun _ k => st1202 _ (XS.ifNo X1202.here hx rfl (hb hby at_105) rfl ((if0 _ _).trans (feq (by decide)).1) (XS.aload X1202.here hx rfl (hb hby at_108) rfl rfl (XS.iconst X1202.here hx rfl (hb hby at_110) (XS.iload X1202.here hx rfl (hb hby at_111) rfl (XS.iloadN X1202.here hx rfl (hb hby at_113) rfl (XS.iloadN X1202.here hx rfl (hb hby at_114) rfl (XS.iloadN X1202.here hx rfl (hb hby at_115) rfl k)))))))) ?_
      show GoH p e below s _ _ _ T1202 (mkF m 116 #[vi p1, vi p2, vi p3, .val cv1, .val cv3, vr uu63, vr uu80, vr b1163, vr uu83, .val cv5] [(.int p2), (.int p1), cv1, cv5, cv3, (.ref uu83)])
      obtain ⟨_, _, ⟨T1204, L1204, k1204, n1204⟩, -, X1204, ⟨Lc1204, hQ1204, l1204, y1204, z1204⟩, st1204⟩ := Jvm.LawKit.callS X1202 hx (y := xm36) hown1187 (mvT hZ1187 (tw173 hw)) (mvT hZ1187 (tw174 hw)) (mvT hZ1187 (tw2 hw)) (mvT hZ1187 (tw175 hw)) (by decide) (backOf (W := 0) (rm_ObjectRefToStringPinLaw_ok_2 l Z a0 hw [] uu83 ci3 ci5 ci1 p1 p2 uu84 uu85 ci5 ([(.int (nar .byte ((nar .char (own_ch p1 ci0)).toInt8.toInt32))), cv58, (.int (nar .byte ((nar .char (own_ch p2 ci0)).toInt8.toInt32))), (.int (nar .byte ((nar .char (own_ch p2 ci1)).toInt8.toInt32))), (.int (nar .byte ((nar .char (own_ch p2 ci2)).toInt8.toInt32)))]) (nar .byte ((nar .char (own_ch p2 ci1)).toInt8.toInt32)) cs fv T1187.heap n0 f1195 (by decide) (by decide) (by decide) P1187_1 P1187_2 P1187_3 f1193 rfl Z_S_COMPACT_STRINGS Z_S_SIOOBE_FORMATTER f1194 hcs hfv (by decide) (by decide) (own_rt p2 ci1)) hZ1187 (tw175 hw) (tw2 hw) (by decide) (by decide)) (g := (mkF m 116 #[vi p1, vi p2, vi p3, .val cv1, .val cv3, vr uu63, vr uu80, vr b1163, vr uu83, .val cv5] [(.int p2), (.int p1), cv1, cv5, cv3, (.ref uu83)])) rfl (by rw [hml]; rfl) (argsL := [(.ref uu83), cv3, cv5, cv1, (.int p1), (.int p2)]) (rest := []) (lenOf pd_24 rfl) rfl (Nat.le_of_eq rfl) (hb hby at_116) (fun _ _ => ⟨rfl, eq1202, (by decide : 13 + 0 ≤ _), (by decide : 66 + 0 ≤ _)⟩)
      dsimp only [Pt.U, Pt.locs, Pt.cells, Pt.slots] at X1204 l1204 y1204 z1204 st1204 hQ1204
      subst l1204 y1204 z1204
      obtain ⟨rfl, N1204q, eq1204⟩ := hQ1204
      have N1205 := Fr.app N1203 N1204q
      refine GoH.step (fun _ k => st1204 _ (XS.ifNo X1204.here hx rfl (hb hby at_119) rfl ((if0 _ _).trans (feq (by decide)).1) (XS.aload X1204.here hx rfl (hb hby at_122) rfl rfl (XS.iconst X1204.here hx rfl (hb hby at_124) (XS.iload X1204.here hx rfl (hb hby at_125) rfl (XS.iloadN X1204.here hx rfl (hb hby at_127) rfl (XS.iloadN X1204.here hx rfl (hb hby at_128) rfl (XS.iloadN X1204.here hx rfl (hb hby at_129) rfl k)))))))) ?_
      show GoH p e below s _ _ _ T1204 (mkF m 130 #[vi p1, vi p2, vi p3, .val cv1, .val cv3, vr uu63, vr uu80, vr b1163, vr uu83, .val cv5] [(.int p2), (.int p1), cv1, cv5, cv4, (.ref uu83)])
      obtain ⟨_, _, ⟨T1206, L1206, k1206, n1206⟩, -, X1206, ⟨Lc1206, hQ1206, l1206, y1206, z1206⟩, st1206⟩ := Jvm.LawKit.callS X1204 hx (y := xm36) hown1187 (mvT hZ1187 (tw173 hw)) (mvT hZ1187 (tw174 hw)) (mvT hZ1187 (tw2 hw)) (mvT hZ1187 (tw175 hw)) (by decide) (backOf (W := 0) (rm_ObjectRefToStringPinLaw_ok_2 l Z a0 hw [] uu83 ci4 ci5 ci1 p1 p2 uu84 uu85 ci5 ([(.int (nar .byte ((nar .char (own_ch p1 ci0)).toInt8.toInt32))), cv58, (.int (nar .byte ((nar .char (own_ch p2 ci0)).toInt8.toInt32))), (.int (nar .byte ((nar .char (own_ch p2 ci1)).toInt8.toInt32))), (.int (nar .byte ((nar .char (own_ch p2 ci2)).toInt8.toInt32)))]) (nar .byte ((nar .char (own_ch p2 ci2)).toInt8.toInt32)) cs fv T1187.heap n0 f1195 (by decide) (by decide) (by decide) P1187_1 P1187_2 P1187_3 f1193 rfl Z_S_COMPACT_STRINGS Z_S_SIOOBE_FORMATTER f1194 hcs hfv (by decide) (by decide) (own_rt p2 ci2)) hZ1187 (tw175 hw) (tw2 hw) (by decide) (by decide)) (g := (mkF m 130 #[vi p1, vi p2, vi p3, .val cv1, .val cv3, vr uu63, vr uu80, vr b1163, vr uu83, .val cv5] [(.int p2), (.int p1), cv1, cv5, cv4, (.ref uu83)])) rfl (by rw [hml]; rfl) (argsL := [(.ref uu83), cv4, cv5, cv1, (.int p1), (.int p2)]) (rest := []) (lenOf pd_24 rfl) rfl (Nat.le_of_eq rfl) (hb hby at_130) (fun _ _ => ⟨rfl, eq1204, (by decide : 13 + 0 ≤ _), (by decide : 66 + 0 ≤ _)⟩)
      dsimp only [Pt.U, Pt.locs, Pt.cells, Pt.slots] at X1206 l1206 y1206 z1206 st1206 hQ1206
      subst l1206 y1206 z1206
      obtain ⟨rfl, N1206q, eq1206⟩ := hQ1206
      have N1207 := Fr.app N1205 N1206q
      refine GoH.step (fun _ k => st1206 _ (XS.ifNo X1206.here hx rfl (hb hby at_133) rfl ((if0 _ _).trans (feq (by decide)).1) (XS.aload X1206.here hx rfl (hb hby at_136) rfl rfl (XS.iconst X1206.here hx rfl (hb hby at_138) (XS.iload X1206.here hx rfl (hb hby at_139) rfl (XS.iloadN X1206.here hx rfl (hb hby at_141) rfl (XS.iloadN X1206.here hx rfl (hb hby at_142) rfl (XS.iloadN X1206.here hx rfl (hb hby at_143) rfl k)))))))) ?_
      show GoH p e below s _ _ _ T1206 (mkF m 144 #[vi p1, vi p2, vi p3, .val cv1, .val cv3, vr uu63, vr uu80, vr b1163, vr uu83, .val cv5] [(.int p2), (.int p1), cv1, cv5, cv5, (.ref uu83)])
      obtain ⟨_, _, ⟨T1208, L1208, k1208, n1208⟩, -, X1208, ⟨Lc1208, hQ1208, l1208, y1208, z1208⟩, st1208⟩ := Jvm.LawKit.callS X1206 hx (y := xm36) hown1187 (mvT hZ1187 (tw173 hw)) (mvT hZ1187 (tw174 hw)) (mvT hZ1187 (tw2 hw)) (mvT hZ1187 (tw175 hw)) (by decide) (backOf (W := 0) (rm_ObjectRefToStringPinLaw_ok_1 l Z a0 hw [] uu83 ci5 ci5 ci1 p1 p2 T1187.heap n0 f1195 (by decide)) hZ1187 (tw175 hw) (tw2 hw) (by decide) (by decide)) (g := (mkF m 144 #[vi p1, vi p2, vi p3, .val cv1, .val cv3, vr uu63, vr uu80, vr b1163, vr uu83, .val cv5] [(.int p2), (.int p1), cv1, cv5, cv5, (.ref uu83)])) rfl (by rw [hml]; rfl) (argsL := [(.ref uu83), cv5, cv5, cv1, (.int p1), (.int p2)]) (rest := []) (lenOf pd_24 rfl) rfl (Nat.le_of_eq rfl) (hb hby at_144) (fun _ _ => ⟨rfl, eq1206, (by decide : 13 + 0 ≤ _), (by decide : 66 + 0 ≤ _)⟩)
      dsimp only [Pt.U, Pt.locs, Pt.cells, Pt.slots] at X1208 l1208 y1208 z1208 st1208 hQ1208
      subst l1208 y1208 z1208
      obtain ⟨rfl, N1208q, eq1208⟩ := hQ1208
      have N1209 := Fr.app N1207 N1208q
      refine GoH.step (fun _ k => st1208 _ (XS.ifNo X1208.here hx rfl (hb hby at_147) rfl ((if0 _ _).trans (feq (by decide)).1) (XS.aload X1208.here hx rfl (hb hby at_150) rfl rfl (XS.bipush X1208.here hx rfl (hb hby at_152) (XS.iload X1208.here hx rfl (hb hby at_154) rfl (XS.iloadN X1208.here hx rfl (hb hby at_156) rfl (XS.iloadN X1208.here hx rfl (hb hby at_157) rfl (XS.iloadN X1208.here hx rfl (hb hby at_158) rfl k)))))))) ?_
      show GoH p e below s _ _ _ T1208 (mkF m 159 #[vi p1, vi p2, vi p3, .val cv1, .val cv3, vr uu63, vr uu80, vr b1163, vr uu83, .val cv5] [(.int p2), (.int p1), cv1, cv5, cv6, (.ref uu83)])
      obtain ⟨_, _, ⟨T1210, L1210, k1210, n1210⟩, -, X1210, ⟨Lc1210, hQ1210, l1210, y1210, z1210⟩, st1210⟩ := Jvm.LawKit.callS X1208 hx (y := xm36) hown1187 (mvT hZ1187 (tw173 hw)) (mvT hZ1187 (tw174 hw)) (mvT hZ1187 (tw2 hw)) (mvT hZ1187 (tw175 hw)) (by decide) (backOf (W := 0) (rm_ObjectRefToStringPinLaw_ok_1 l Z a0 hw [] uu83 ci6 ci5 ci1 p1 p2 T1187.heap n0 f1195 (by decide)) hZ1187 (tw175 hw) (tw2 hw) (by decide) (by decide)) (g := (mkF m 159 #[vi p1, vi p2, vi p3, .val cv1, .val cv3, vr uu63, vr uu80, vr b1163, vr uu83, .val cv5] [(.int p2), (.int p1), cv1, cv5, cv6, (.ref uu83)])) rfl (by rw [hml]; rfl) (argsL := [(.ref uu83), cv6, cv5, cv1, (.int p1), (.int p2)]) (rest := []) (lenOf pd_24 rfl) rfl (Nat.le_of_eq rfl) (hb hby at_159) (fun _ _ => ⟨rfl, eq1208, (by decide : 13 + 0 ≤ _), (by decide : 66 + 0 ≤ _)⟩)
      dsimp only [Pt.U, Pt.locs, Pt.cells, Pt.slots] at X1210 l1210 y1210 z1210 st1210 hQ1210
      subst l1210 y1210 z1210
      obtain ⟨rfl, N1210q, eq1210⟩ := hQ1210
      have N1211 := Fr.app N1209 N1210q
      refine GoH.step (fun _ k => st1210 _ (XS.ifNo X1210.here hx rfl (hb hby at_162) rfl ((if0 _ _).trans (feq (by decide)).1) (XS.iconst X1210.here hx rfl (hb hby at_165) (XS.goto X1210.here hx rfl (pc0 := 166) (pc' := 170) rfl (hb hby at_166) (by decide) (by decide) k)))) ?_
      show GoH p e below s _ _ _ T1210 (mkF m 170 #[vi p1, vi p2, vi p3, .val cv1, .val cv3, vr uu63, vr uu80, vr b1163, vr uu83, .val cv5] [cv1])
      exact GoH.retN X1210 hS1187 hx hlk (t := .boolean) Bd.returns (by simp) (hb hby at_170) eq1210 (Nat.le_refl _) ⟨rfl, N1211⟩ (f1192.trans (CHv.at X1210 hZ1187 (own_EW hw) f1192.1)) (by decide) (by decide)
  · show GoH p e below s _ _ _ s₁ (mkF m 13 #[vi p1, vi p2, vi p3, .val cv2, vi rl, .unset, .unset, .unset, .unset, .unset] [cv2, (.int p1)])
    obtain ⟨_, _, ⟨T1212, L1212, k1212, n1212⟩, -, X1212s, hs1212, hg1212, ⟨Lc1212, hQ1212, l1212, y1212, z1212, ch1212⟩, st1212⟩ := callSS X0 hx (y := xm33) hown (mvT hZ (tw0 hw)) (mvT hZ (tw1 hw)) (mvT hZ (tw2 hw)) (mvT hZ (tw3 hw)) (by decide) (backOfSH (W := 0) (rm_ObjectRefToStringPinLaw_make_2 l Z a0 hw [] p1 cs h0 n0 Z0 Z_S_COMPACT_STRINGS O0 hcs (own_c2 p1 ci0) (own_c2 p1 ci1)) hZ (tw3 hw) (tw2 hw) (by decide) (by decide) (own_EW hw) CH0.1) (g := (mkF m 13 #[vi p1, vi p2, vi p3, .val cv2, vi rl, .unset, .unset, .unset, .unset, .unset] [cv2, (.int p1)])) rfl (by rw [hml]; rfl) (argsL := [(.int p1), cv2]) (rest := []) (lenOf pd_3 rfl) rfl (Nat.le_of_eq rfl) (hb hby at_13) (fun _ _ => ⟨rfl, e0, (by decide : 0 + 3 ≤ _), (by decide : 0 + 8 ≤ _)⟩)
    dsimp only [Pt.U, Pt.locs, Pt.cells, Pt.slots] at X1212s hs1212 hg1212 l1212 y1212 z1212 st1212 hQ1212 ch1212
    subst l1212 y1212 z1212
    obtain ⟨X1212, hS1212, hZ1212, hown1212⟩ := rebS hS0 (by rw [e0]; exact (Nat.le_refl _)) X1212s hs1212 hg1212 hZ hown
    obtain ⟨uu86, uu87, uu88, rfl, N1212q, K1212, P1212_0, P1212_1, P1212_2, P1212_3, P1212_4, P1212_5, P1212_6⟩ := hQ1212
    have N1213 := Fr.app N0 N1212q
    have f1214 := CH0.trans ch1212
    refine GoH.step (fun _ k => st1212.trans (XS.astore X1212.here hx rfl (hb hby at_16) rfl rfl (l' := #[vi p1, vi p2, vi p3, .val cv2, vi rl, vr uu86, .unset, .unset, .unset, .unset]) rfl (XS.iloadN X1212.here hx rfl (hb hby at_18) rfl (XS.iload X1212.here hx rfl (hb hby at_19) rfl k)))) ?_
    show GoH p e below s _ _ _ T1212 (mkF m 21 #[vi p1, vi p2, vi p3, .val cv2, vi rl, vr uu86, .unset, .unset, .unset, .unset] [(.int rl), (.int p2)])
    rcases hrl with rfl | rfl | rfl | rfl
    · show GoH p e below s _ _ _ T1212 (mkF m 21 #[vi p1, vi p2, vi p3, .val cv2, .val cv0, vr uu86, .unset, .unset, .unset, .unset] [cv0, (.int p2)])
      have f1215 := (Nat.le_trans Z0 K1212.1)
      obtain ⟨_, _, ⟨T1216, L1216, k1216, n1216⟩, -, X1216s, hs1216, hg1216, ⟨Lc1216, hQ1216, l1216, y1216, z1216, ch1216⟩, st1216⟩ := callSS X1212 hx (y := xm33) hown1212 (mvT hZ1212 (tw0 hw)) (mvT hZ1212 (tw1 hw)) (mvT hZ1212 (tw2 hw)) (mvT hZ1212 (tw3 hw)) (by decide) (backOfSH (W := 0) (rm_ObjectRefToStringPinLaw_make_0 l Z a0 hw [] p2 T1212.heap n0 f1215) hZ1212 (tw3 hw) (tw2 hw) (by decide) (by decide) (own_EW hw) f1214.1) (g := (mkF m 21 #[vi p1, vi p2, vi p3, .val cv2, .val cv0, vr uu86, .unset, .unset, .unset, .unset] [cv0, (.int p2)])) rfl (by rw [hml]; rfl) (argsL := [(.int p2), cv0]) (rest := []) (lenOf pd_3 rfl) rfl (Nat.le_of_eq rfl) (hb hby at_21) (fun _ _ => ⟨rfl, rfl, (by decide : 3 + 6 ≤ _), (by decide : 8 + 12 ≤ _)⟩)
      dsimp only [Pt.U, Pt.locs, Pt.cells, Pt.slots] at X1216s hs1216 hg1216 l1216 y1216 z1216 st1216 hQ1216 ch1216
      subst l1216 y1216 z1216
      obtain ⟨X1216, hS1216, hZ1216, hown1216⟩ := rebS hS1212 (by exact (Nat.le_refl _)) X1216s hs1216 hg1216 hZ1212 hown1212
      obtain ⟨uu89, uu90, kb13_41_49_1216, rfl, N1216q, K1216, P1216_0, P1216_1, P1216_2, P1216_3, P1216_4⟩ := hQ1216
      have N1217 := Fr.app N1213 N1216q
      have f1218 := f1214.trans ch1216
      refine GoH.step (fun _ k => st1216.trans (XS.astore X1216.here hx rfl (hb hby at_24) rfl rfl (l' := #[vi p1, vi p2, vi p3, .val cv2, .val cv0, vr uu86, vr uu89, .unset, .unset, .unset]) rfl k)) ?_
      show GoH p e below s _ _ _ T1216 (mkF m 26 #[vi p1, vi p2, vi p3, .val cv2, .val cv0, vr uu86, vr uu89, .unset, .unset, .unset] [])
      obtain ⟨T1219, h1219, X1219, e1219, E1219, A1219, D1219, -, st1219⟩ := newO X1216 hx hZ1216 hown1216 (tw40 hw) (tw41 hw) (tw42 hw) rfl (g := (mkF m 26 #[vi p1, vi p2, vi p3, .val cv2, .val cv0, vr uu86, vr uu89, .unset, .unset, .unset] [])) rfl (hb hby at_26) (by decide) (by decide)
      obtain ⟨b1219, g1219⟩ : ∃ z, z = T1216.heap.size := ⟨_, rfl⟩
      rw [← g1219] at A1219 D1219 st1219
      have f1220 : Fld Z h1219 b1219 xs3 "type" xs21 .null := D1219 (Or.inr (tw53 hw)) (ty := (.object xs25)) (by decide)
      have f1221 : Fld Z h1219 b1219 xs3 "id" xs21 .null := D1219 (Or.inr (tw55 hw)) (ty := (.object xs25)) (by decide)
      refine GoH.step (fun _ k => st1219 _ (XS.dup X1219.here hx rfl (hb hby at_29) rfl rfl (XS.aload X1219.here hx rfl (hb hby at_30) rfl rfl (XS.aload X1219.here hx rfl (hb hby at_32) rfl rfl k)))) ?_
      show GoH p e below s _ _ _ T1219 (mkF m 34 #[vi p1, vi p2, vi p3, .val cv2, .val cv0, vr uu86, vr uu89, .unset, .unset, .unset] [(.ref uu89), (.ref uu86), (.ref b1219), (.ref b1219)])
      have f1222 := (Nat.le_trans (Nat.le_trans f1215 K1216.1) E1219.1)
      have f1223 := (Nat.le_trans f1215 K1216.1)
      have g1224 := Nat.le_trans f1223 (Nat.le_of_eq g1219.symm)
      obtain ⟨_, _, ⟨T1225, L1225, k1225, n1225⟩, -, X1225, ⟨Lc1225, hQ1225, l1225, y1225, z1225⟩, st1225⟩ := X1219.specialBack hx (y := xm31) rfl hown1216 (mvT hZ1216 (tw43 hw)) (mvT hZ1216 (tw44 hw)) (mvT hZ1216 (tw45 hw)) (by decide) (backOf (W := 1) (rm_ObjectRef_new_0 l Z a0 hw [] b1219 uu86 uu89 h1219 n0 f1222 A1219 f1220 g1224 f1221) hZ1216 (tw45 hw) (tw42 hw) (by decide) (by decide)) (g := (mkF m 34 #[vi p1, vi p2, vi p3, .val cv2, .val cv0, vr uu86, vr uu89, .unset, .unset, .unset] [(.ref uu89), (.ref uu86), (.ref b1219), (.ref b1219)])) rfl (by rw [hml]; rfl) (Steps.refl _) (a := b1219) (argsL := [(.ref uu86), (.ref uu89)]) (rest := [(.ref b1219)]) (lenOf pd_5 rfl) rfl (Nat.le_of_eq rfl) (hb hby at_34) (fun _ _ => ⟨rfl, e1219, (by decide : 10 + 0 ≤ _), (by decide : 22 + 0 ≤ _)⟩)
      dsimp only [Pt.U, Pt.locs, Pt.cells, Pt.slots] at X1225 l1225 y1225 z1225 st1225 hQ1225
      subst l1225 y1225 z1225
      obtain ⟨rfl, N1225q, K1225, P1225_0, P1225_1⟩ := hQ1225
      have N1226 := Fr.app N1217 N1225q
      refine GoH.step (fun _ k => st1225.trans (XS.astore X1225.here hx rfl (hb hby at_37) rfl rfl (l' := #[vi p1, vi p2, vi p3, .val cv2, .val cv0, vr uu86, vr uu89, vr b1219, .unset, .unset]) rfl (XS.aload X1225.here hx rfl (hb hby at_39) rfl rfl k))) ?_
      show GoH p e below s _ _ _ T1225 (mkF m 41 #[vi p1, vi p2, vi p3, .val cv2, .val cv0, vr uu86, vr uu89, vr b1219, .unset, .unset] [(.ref b1219)])
      have f1227 := ((((O0.keep K1212 all0).keep K1216 all0).ext E1219).keep K1225 (allS g1224 all0))
      have f1228 := (Nat.le_trans f1222 K1225.1)
      have f1229 := (((P1212_1.keep K1216).ext E1219).keep K1225)
      have f1230 := (P1212_1.keep K1216)
      have ne1231 : uu86 ≠ b1219 := Nat.ne_of_lt (Nat.lt_of_lt_of_le f1230.lt (Nat.le_of_eq g1219.symm))
      have f1232 := (((P1212_3.keep K1216 nin0).ext E1219).keep K1225 (ninS ne1231 nin0))
      have f1233 := (P1212_5.keep K1216 nin0)
      have ne1234 : uu87 ≠ b1219 := Nat.ne_of_lt (Nat.lt_of_lt_of_le f1233.lt (Nat.le_of_eq g1219.symm))
      have f1235 := (((P1212_5.keep K1216 nin0).ext E1219).keep K1225 (ninS ne1234 nin0))
      have f1236 := (((P1212_2.keep K1216 nin0).ext E1219).keep K1225 (ninS ne1231 nin0))
      have f1237 := ((P1216_1.ext E1219).keep K1225)
      have ne1238 : uu89 ≠ b1219 := Nat.ne_of_lt (Nat.lt_of_lt_of_le P1216_1.lt (Nat.le_of_eq g1219.symm))
      have f1239 := ((P1216_3.ext E1219).keep K1225 (ninS ne1238 nin0))
      have ne1240 : uu90 ≠ b1219 := Nat.ne_of_lt (Nat.lt_of_lt_of_le P1216_4.lt (Nat.le_of_eq g1219.symm))
      have f1241 := ((P1216_4.ext E1219).keep K1225 (ninS ne1240 nin0))
      have f1242 := ((P1216_2.ext E1219).keep K1225 (ninS ne1238 nin0))
      have f1244 := (own_chK (own_chE f1218 E1219) K1225 (sfS (Safe.exa hZ1216.alike A1219 (by decide) (by decide)) sf0))
      have f1245 := (A1219.keep K1225)
      obtain ⟨cq1243, kq1243, q1243a, q1243b, q1243c⟩ := isOf hZ1216 rfl f1245
      obtain ⟨_, _, ⟨T1243, L1243, k1243, n1243⟩, -, X1243s, hs1243, hg1243, ⟨Lc1243, hQ1243, l1243, y1243, z1243, ch1243⟩, st1243⟩ := X1225.virtualBackS hx (y := xm21) (z := xm21) hown1216 (mvT hZ1216 (tw56 hw)) (mvT hZ1216 (tw57 hw)) (notFace_of_selects (args := #[]) (mvT hZ1216 (tw59 hw))) (mvT hZ1216 (tw59 hw)) (mvT hZ1216 (tw58 hw)) (by decide) (backOfSH (W := 0) (rm_ObjectRef_toString_0 l Z a0 hw [] b1219 cs uu86 uu87 uu88 ci2 ([(.int (nar .byte ((nar .char (own_ch p1 ci0)).toInt8.toInt32))), (.int (nar .byte ((nar .char (own_ch p1 ci1)).toInt8.toInt32)))]) uu89 uu90 kb13_41_49_1216 ci0 ([]) T1225.heap n0 f1228 Z_S_COMPACT_STRINGS f1227 hcs P1225_0 f1229 f1232 f1235 f1236 (by decide) (by decide) (Nat.le_of_ble_eq_true rfl) (Nat.le_of_ble_eq_true rfl) (Nat.le_of_ble_eq_true rfl) (by decide) (by decide) (Nat.le_of_ble_eq_true rfl) (Nat.le_of_ble_eq_true rfl) P1225_1 f1237 f1239 f1241 f1242 (by decide) (by decide) (by decide) (Nat.le_of_ble_eq_true rfl) (Nat.le_of_ble_eq_true rfl) (Nat.le_of_ble_eq_true rfl) (by decide) (by decide) (by decide) (Nat.le_of_ble_eq_true rfl) (by decide) (Nat.le_of_ble_eq_true rfl) (Nat.le_of_ble_eq_true rfl) (Nat.le_of_ble_eq_true rfl)) hZ1216 (tw60 hw) (tw42 hw) (by decide) (by decide) (own_EW hw) f1244.1) q1243a q1243c (g := (mkF m 41 #[vi p1, vi p2, vi p3, .val cv2, .val cv0, vr uu86, vr uu89, vr b1219, .unset, .unset] [(.ref b1219)])) rfl (by rw [hml]; rfl) (Steps.refl _) (argsL := []) (rest := []) (lenOf pd_21 rfl) rfl (Nat.le_of_eq rfl) (hb hby at_41) (fun _ _ => ⟨rfl, rfl, (by decide : 10 + 6 ≤ _), (by decide : 22 + 48 ≤ _)⟩)
      dsimp only [Pt.U, Pt.locs, Pt.cells, Pt.slots] at X1243s hs1243 hg1243 l1243 y1243 z1243 st1243 hQ1243 ch1243
      subst l1243 y1243 z1243
      have f1246 := (Nat.le_trans (Nat.le_trans (Nat.le_refl _) E1219.1) K1225.1)
      obtain ⟨X1243, hS1243, hZ1243, hown1243⟩ := rebS hS1216 (by exact f1246) X1243s hs1243 hg1243 hZ1216 hown1216
      obtain ⟨uu91, uu92, uu93, rfl, N1243q, K1243, P1243_0, P1243_1, P1243_2, P1243_3, P1243_4, P1243_5, P1243_6⟩ := hQ1243
      have N1247 := Fr.app N1226 N1243q
      have f1248 := f1244.trans ch1243
      refine GoH.step (fun _ k => st1243.trans k) ?_
      show GoH p e below s _ _ _ T1243 (mkF m 44 #[vi p1, vi p2, vi p3, .val cv2, .val cv0, vr uu86, vr uu89, vr b1219, .unset, .unset] [(.ref uu91)])
      have f1249 : Arv Z T1243.heap uu92 uu93 .byte ci3 [(.int (nar .byte ((nar .char (own_ch p1 ci0)).toInt8.toInt32))), (.int (nar .byte ((nar .char (own_ch p1 ci1)).toInt8.toInt32))), cv58] cv0 := P1243_5
      refine GoH.step (fun _ k => XS.astore X1243.here hx rfl (hb hby at_44) rfl rfl (l' := #[vi p1, vi p2, vi p3, .val cv2, .val cv0, vr uu86, vr uu89, vr b1219, vr uu91, .unset]) rfl (XS.iloadN X1243.here hx rfl (hb hby at_46) rfl (XS.iconst X1243.here hx rfl (hb hby at_47) (XS.iadd X1243.here hx rfl (hb hby at_48) rfl (XS.iload X1243.here hx rfl (hb hby at_49) rfl (XS.iadd X1243.here hx rfl (hb hby at_51) rfl (XS.istore X1243.here hx rfl (hb hby at_52) rfl (l' := #[vi p1, vi p2, vi p3, .val cv2, .val cv0, vr uu86, vr uu89, vr b1219, vr uu91, .val cv3]) rfl (XS.aload X1243.here hx rfl (hb hby at_54) rfl rfl k)))))))) ?_
      show GoH p e below s _ _ _ T1243 (mkF m 56 #[vi p1, vi p2, vi p3, .val cv2, .val cv0, vr uu86, vr uu89, vr b1219, vr uu91, .val cv3] [(.ref uu91)])
      have f1250 := (f1227.keep K1243 all0)
      have f1251 := (Nat.le_trans f1228 K1243.1)
      obtain ⟨cq1252, kq1252, q1252a, q1252b, q1252c⟩ := isOf hZ1243 rfl P1243_1
      obtain ⟨_, _, ⟨T1252, L1252, k1252, n1252⟩, -, X1252, ⟨Lc1252, hQ1252, l1252, y1252, z1252⟩, st1252⟩ := X1243.virtualBack hx (y := xm19) (z := xm19) hown1243 (mvT hZ1243 (tw172 hw)) (mvT hZ1243 (tw90 hw)) (notFace_of_selects (args := #[]) (mvT hZ1243 (tw92 hw))) (mvT hZ1243 (tw92 hw)) (mvT hZ1243 (tw91 hw)) (by decide) (backOf (W := 0) (rm_String_length_0 l Z a0 hw [] uu91 uu92 uu93 ci3 ([(.int (nar .byte ((nar .char (own_ch p1 ci0)).toInt8.toInt32))), (.int (nar .byte ((nar .char (own_ch p1 ci1)).toInt8.toInt32))), cv58]) cs T1243.heap n0 f1251 P1243_3 f1249 P1243_1 Z_S_COMPACT_STRINGS f1250 hcs P1243_2) hZ1243 (tw93 hw) (tw6 hw) (by decide) (by decide)) q1252a q1252c (g := (mkF m 56 #[vi p1, vi p2, vi p3, .val cv2, .val cv0, vr uu86, vr uu89, vr b1219, vr uu91, .val cv3] [(.ref uu91)])) rfl (by rw [hml]; rfl) (Steps.refl _) (argsL := []) (rest := []) (lenOf pd_8 rfl) rfl (Nat.le_of_eq rfl) (hb hby at_56) (fun _ _ => ⟨rfl, rfl, (by decide : 16 + 0 ≤ _), (by decide : 70 + 0 ≤ _)⟩)
      dsimp only [Pt.U, Pt.locs, Pt.cells, Pt.slots] at X1252 l1252 y1252 z1252 st1252 hQ1252
      subst l1252 y1252 z1252
      obtain ⟨rfl, N1252q, eq1252⟩ := hQ1252
      have N1253 := Fr.app N1247 N1252q
      refine GoH.step (fun _ k => st1252.trans (XS.iload X1252.here hx rfl (hb hby at_59) rfl (XS.icmpYes X1252.here hx rfl (pc0 := 61) (pc' := 66) rfl (hb hby at_61) rfl (teq (by decide)).1 (by decide) (by decide) (XS.aload X1252.here hx rfl (hb hby at_66) rfl rfl (XS.iconst X1252.here hx rfl (hb hby at_68) (XS.iload X1252.here hx rfl (hb hby at_69) rfl (XS.iloadN X1252.here hx rfl (hb hby at_71) rfl (XS.iloadN X1252.here hx rfl (hb hby at_72) rfl (XS.iloadN X1252.here hx rfl (hb hby at_73) rfl k))))))))) ?_
      show GoH p e below s _ _ _ T1252 (mkF m 74 #[vi p1, vi p2, vi p3, .val cv2, .val cv0, vr uu86, vr uu89, vr b1219, vr uu91, .val cv3] [(.int p2), (.int p1), cv2, cv3, cv0, (.ref uu91)])
      obtain ⟨_, _, ⟨T1254, L1254, k1254, n1254⟩, -, X1254, ⟨Lc1254, hQ1254, l1254, y1254, z1254⟩, st1254⟩ := Jvm.LawKit.callS X1252 hx (y := xm36) hown1243 (mvT hZ1243 (tw173 hw)) (mvT hZ1243 (tw174 hw)) (mvT hZ1243 (tw2 hw)) (mvT hZ1243 (tw175 hw)) (by decide) (backOf (W := 0) (rm_ObjectRefToStringPinLaw_ok_3 l Z a0 hw [] uu91 ci0 ci3 ci2 p1 p2 uu92 uu93 ci3 ([(.int (nar .byte ((nar .char (own_ch p1 ci0)).toInt8.toInt32))), (.int (nar .byte ((nar .char (own_ch p1 ci1)).toInt8.toInt32))), cv58]) (nar .byte ((nar .char (own_ch p1 ci0)).toInt8.toInt32)) cs fv T1243.heap n0 f1251 (by decide) (by decide) P1243_1 P1243_2 P1243_3 f1249 rfl Z_S_COMPACT_STRINGS Z_S_SIOOBE_FORMATTER f1250 hcs hfv (by decide) (by decide) (own_rt p1 ci0)) hZ1243 (tw175 hw) (tw2 hw) (by decide) (by decide)) (g := (mkF m 74 #[vi p1, vi p2, vi p3, .val cv2, .val cv0, vr uu86, vr uu89, vr b1219, vr uu91, .val cv3] [(.int p2), (.int p1), cv2, cv3, cv0, (.ref uu91)])) rfl (by rw [hml]; rfl) (argsL := [(.ref uu91), cv0, cv3, cv2, (.int p1), (.int p2)]) (rest := []) (lenOf pd_24 rfl) rfl (Nat.le_of_eq rfl) (hb hby at_74) (fun _ _ => ⟨rfl, eq1252, (by decide : 16 + 0 ≤ _), (by decide : 70 + 0 ≤ _)⟩)
      dsimp only [Pt.U, Pt.locs, Pt.cells, Pt.slots] at X1254 l1254 y1254 z1254 st1254 hQ1254
      subst l1254 y1254 z1254
      obtain ⟨rfl, N1254q, eq1254⟩ := hQ1254
      have N1255 := Fr.app N1253 N1254q
      refine GoH.step (fun _ k => st1254 _ (XS.ifNo X1254.here hx rfl (hb hby at_77) rfl ((if0 _ _).trans (feq (by decide)).1) (XS.aload X1254.here hx rfl (hb hby at_80) rfl rfl (XS.iconst X1254.here hx rfl (hb hby at_82) (XS.iload X1254.here hx rfl (hb hby at_83) rfl (XS.iloadN X1254.here hx rfl (hb hby at_85) rfl (XS.iloadN X1254.here hx rfl (hb hby at_86) rfl (XS.iloadN X1254.here hx rfl (hb hby at_87) rfl k)))))))) ?_
      show GoH p e below s _ _ _ T1254 (mkF m 88 #[vi p1, vi p2, vi p3, .val cv2, .val cv0, vr uu86, vr uu89, vr b1219, vr uu91, .val cv3] [(.int p2), (.int p1), cv2, cv3, cv1, (.ref uu91)])
      obtain ⟨_, _, ⟨T1256, L1256, k1256, n1256⟩, -, X1256, ⟨Lc1256, hQ1256, l1256, y1256, z1256⟩, st1256⟩ := Jvm.LawKit.callS X1254 hx (y := xm36) hown1243 (mvT hZ1243 (tw173 hw)) (mvT hZ1243 (tw174 hw)) (mvT hZ1243 (tw2 hw)) (mvT hZ1243 (tw175 hw)) (by decide) (backOf (W := 0) (rm_ObjectRefToStringPinLaw_ok_3 l Z a0 hw [] uu91 ci1 ci3 ci2 p1 p2 uu92 uu93 ci3 ([(.int (nar .byte ((nar .char (own_ch p1 ci0)).toInt8.toInt32))), (.int (nar .byte ((nar .char (own_ch p1 ci1)).toInt8.toInt32))), cv58]) (nar .byte ((nar .char (own_ch p1 ci1)).toInt8.toInt32)) cs fv T1243.heap n0 f1251 (by decide) (by decide) P1243_1 P1243_2 P1243_3 f1249 rfl Z_S_COMPACT_STRINGS Z_S_SIOOBE_FORMATTER f1250 hcs hfv (by decide) (by decide) (own_rt p1 ci1)) hZ1243 (tw175 hw) (tw2 hw) (by decide) (by decide)) (g := (mkF m 88 #[vi p1, vi p2, vi p3, .val cv2, .val cv0, vr uu86, vr uu89, vr b1219, vr uu91, .val cv3] [(.int p2), (.int p1), cv2, cv3, cv1, (.ref uu91)])) rfl (by rw [hml]; rfl) (argsL := [(.ref uu91), cv1, cv3, cv2, (.int p1), (.int p2)]) (rest := []) (lenOf pd_24 rfl) rfl (Nat.le_of_eq rfl) (hb hby at_88) (fun _ _ => ⟨rfl, eq1254, (by decide : 16 + 0 ≤ _), (by decide : 70 + 0 ≤ _)⟩)
      dsimp only [Pt.U, Pt.locs, Pt.cells, Pt.slots] at X1256 l1256 y1256 z1256 st1256 hQ1256
      subst l1256 y1256 z1256
      obtain ⟨rfl, N1256q, eq1256⟩ := hQ1256
      have N1257 := Fr.app N1255 N1256q
      refine GoH.step (fun _ k => st1256 _ (XS.ifNo X1256.here hx rfl (hb hby at_91) rfl ((if0 _ _).trans (feq (by decide)).1) (XS.aload X1256.here hx rfl (hb hby at_94) rfl rfl (XS.iconst X1256.here hx rfl (hb hby at_96) (XS.iload X1256.here hx rfl (hb hby at_97) rfl (XS.iloadN X1256.here hx rfl (hb hby at_99) rfl (XS.iloadN X1256.here hx rfl (hb hby at_100) rfl (XS.iloadN X1256.here hx rfl (hb hby at_101) rfl k)))))))) ?_
      show GoH p e below s _ _ _ T1256 (mkF m 102 #[vi p1, vi p2, vi p3, .val cv2, .val cv0, vr uu86, vr uu89, vr b1219, vr uu91, .val cv3] [(.int p2), (.int p1), cv2, cv3, cv2, (.ref uu91)])
      obtain ⟨_, _, ⟨T1258, L1258, k1258, n1258⟩, -, X1258, ⟨Lc1258, hQ1258, l1258, y1258, z1258⟩, st1258⟩ := Jvm.LawKit.callS X1256 hx (y := xm36) hown1243 (mvT hZ1243 (tw173 hw)) (mvT hZ1243 (tw174 hw)) (mvT hZ1243 (tw2 hw)) (mvT hZ1243 (tw175 hw)) (by decide) (backOf (W := 0) (rm_ObjectRefToStringPinLaw_ok_0 l Z a0 hw [] uu91 ci2 ci3 ci2 p1 p2 cs uu92 uu93 ci3 ([(.int (nar .byte ((nar .char (own_ch p1 ci0)).toInt8.toInt32))), (.int (nar .byte ((nar .char (own_ch p1 ci1)).toInt8.toInt32))), cv58]) fv ci58 T1243.heap n0 f1251 (by decide) (by decide) rfl P1243_1 Z_S_COMPACT_STRINGS f1250 hcs P1243_2 P1243_3 f1249 Z_S_SIOOBE_FORMATTER hfv rfl (by decide) (by decide) (by decide)) hZ1243 (tw175 hw) (tw2 hw) (by decide) (by decide)) (g := (mkF m 102 #[vi p1, vi p2, vi p3, .val cv2, .val cv0, vr uu86, vr uu89, vr b1219, vr uu91, .val cv3] [(.int p2), (.int p1), cv2, cv3, cv2, (.ref uu91)])) rfl (by rw [hml]; rfl) (argsL := [(.ref uu91), cv2, cv3, cv2, (.int p1), (.int p2)]) (rest := []) (lenOf pd_24 rfl) rfl (Nat.le_of_eq rfl) (hb hby at_102) (fun _ _ => ⟨rfl, eq1256, (by decide : 16 + 0 ≤ _), (by decide : 70 + 0 ≤ _)⟩)
      dsimp only [Pt.U, Pt.locs, Pt.cells, Pt.slots] at X1258 l1258 y1258 z1258 st1258 hQ1258
      subst l1258 y1258 z1258
      obtain ⟨rfl, N1258q, eq1258⟩ := hQ1258
      have N1259 := Fr.app N1257 N1258q
      refine GoH.step (fun _ k => st1258 _ (XS.ifNo X1258.here hx rfl (hb hby at_105) rfl ((if0 _ _).trans (feq (by decide)).1) (XS.aload X1258.here hx rfl (hb hby at_108) rfl rfl (XS.iconst X1258.here hx rfl (hb hby at_110) (XS.iload X1258.here hx rfl (hb hby at_111) rfl (XS.iloadN X1258.here hx rfl (hb hby at_113) rfl (XS.iloadN X1258.here hx rfl (hb hby at_114) rfl (XS.iloadN X1258.here hx rfl (hb hby at_115) rfl k)))))))) ?_
      show GoH p e below s _ _ _ T1258 (mkF m 116 #[vi p1, vi p2, vi p3, .val cv2, .val cv0, vr uu86, vr uu89, vr b1219, vr uu91, .val cv3] [(.int p2), (.int p1), cv2, cv3, cv3, (.ref uu91)])
      obtain ⟨_, _, ⟨T1260, L1260, k1260, n1260⟩, -, X1260, ⟨Lc1260, hQ1260, l1260, y1260, z1260⟩, st1260⟩ := Jvm.LawKit.callS X1258 hx (y := xm36) hown1243 (mvT hZ1243 (tw173 hw)) (mvT hZ1243 (tw174 hw)) (mvT hZ1243 (tw2 hw)) (mvT hZ1243 (tw175 hw)) (by decide) (backOf (W := 0) (rm_ObjectRefToStringPinLaw_ok_1 l Z a0 hw [] uu91 ci3 ci3 ci2 p1 p2 T1243.heap n0 f1251 (by decide)) hZ1243 (tw175 hw) (tw2 hw) (by decide) (by decide)) (g := (mkF m 116 #[vi p1, vi p2, vi p3, .val cv2, .val cv0, vr uu86, vr uu89, vr b1219, vr uu91, .val cv3] [(.int p2), (.int p1), cv2, cv3, cv3, (.ref uu91)])) rfl (by rw [hml]; rfl) (argsL := [(.ref uu91), cv3, cv3, cv2, (.int p1), (.int p2)]) (rest := []) (lenOf pd_24 rfl) rfl (Nat.le_of_eq rfl) (hb hby at_116) (fun _ _ => ⟨rfl, eq1258, (by decide : 16 + 0 ≤ _), (by decide : 70 + 0 ≤ _)⟩)
      dsimp only [Pt.U, Pt.locs, Pt.cells, Pt.slots] at X1260 l1260 y1260 z1260 st1260 hQ1260
      subst l1260 y1260 z1260
      obtain ⟨rfl, N1260q, eq1260⟩ := hQ1260
      have N1261 := Fr.app N1259 N1260q
      refine GoH.step (fun _ k => st1260 _ (XS.ifNo X1260.here hx rfl (hb hby at_119) rfl ((if0 _ _).trans (feq (by decide)).1) (XS.aload X1260.here hx rfl (hb hby at_122) rfl rfl (XS.iconst X1260.here hx rfl (hb hby at_124) (XS.iload X1260.here hx rfl (hb hby at_125) rfl (XS.iloadN X1260.here hx rfl (hb hby at_127) rfl (XS.iloadN X1260.here hx rfl (hb hby at_128) rfl (XS.iloadN X1260.here hx rfl (hb hby at_129) rfl k)))))))) ?_
      show GoH p e below s _ _ _ T1260 (mkF m 130 #[vi p1, vi p2, vi p3, .val cv2, .val cv0, vr uu86, vr uu89, vr b1219, vr uu91, .val cv3] [(.int p2), (.int p1), cv2, cv3, cv4, (.ref uu91)])
      obtain ⟨_, _, ⟨T1262, L1262, k1262, n1262⟩, -, X1262, ⟨Lc1262, hQ1262, l1262, y1262, z1262⟩, st1262⟩ := Jvm.LawKit.callS X1260 hx (y := xm36) hown1243 (mvT hZ1243 (tw173 hw)) (mvT hZ1243 (tw174 hw)) (mvT hZ1243 (tw2 hw)) (mvT hZ1243 (tw175 hw)) (by decide) (backOf (W := 0) (rm_ObjectRefToStringPinLaw_ok_1 l Z a0 hw [] uu91 ci4 ci3 ci2 p1 p2 T1243.heap n0 f1251 (by decide)) hZ1243 (tw175 hw) (tw2 hw) (by decide) (by decide)) (g := (mkF m 130 #[vi p1, vi p2, vi p3, .val cv2, .val cv0, vr uu86, vr uu89, vr b1219, vr uu91, .val cv3] [(.int p2), (.int p1), cv2, cv3, cv4, (.ref uu91)])) rfl (by rw [hml]; rfl) (argsL := [(.ref uu91), cv4, cv3, cv2, (.int p1), (.int p2)]) (rest := []) (lenOf pd_24 rfl) rfl (Nat.le_of_eq rfl) (hb hby at_130) (fun _ _ => ⟨rfl, eq1260, (by decide : 16 + 0 ≤ _), (by decide : 70 + 0 ≤ _)⟩)
      dsimp only [Pt.U, Pt.locs, Pt.cells, Pt.slots] at X1262 l1262 y1262 z1262 st1262 hQ1262
      subst l1262 y1262 z1262
      obtain ⟨rfl, N1262q, eq1262⟩ := hQ1262
      have N1263 := Fr.app N1261 N1262q
      refine GoH.step (fun _ k => st1262 _ (XS.ifNo X1262.here hx rfl (hb hby at_133) rfl ((if0 _ _).trans (feq (by decide)).1) (XS.aload X1262.here hx rfl (hb hby at_136) rfl rfl (XS.iconst X1262.here hx rfl (hb hby at_138) (XS.iload X1262.here hx rfl (hb hby at_139) rfl (XS.iloadN X1262.here hx rfl (hb hby at_141) rfl (XS.iloadN X1262.here hx rfl (hb hby at_142) rfl (XS.iloadN X1262.here hx rfl (hb hby at_143) rfl k)))))))) ?_
      show GoH p e below s _ _ _ T1262 (mkF m 144 #[vi p1, vi p2, vi p3, .val cv2, .val cv0, vr uu86, vr uu89, vr b1219, vr uu91, .val cv3] [(.int p2), (.int p1), cv2, cv3, cv5, (.ref uu91)])
      obtain ⟨_, _, ⟨T1264, L1264, k1264, n1264⟩, -, X1264, ⟨Lc1264, hQ1264, l1264, y1264, z1264⟩, st1264⟩ := Jvm.LawKit.callS X1262 hx (y := xm36) hown1243 (mvT hZ1243 (tw173 hw)) (mvT hZ1243 (tw174 hw)) (mvT hZ1243 (tw2 hw)) (mvT hZ1243 (tw175 hw)) (by decide) (backOf (W := 0) (rm_ObjectRefToStringPinLaw_ok_1 l Z a0 hw [] uu91 ci5 ci3 ci2 p1 p2 T1243.heap n0 f1251 (by decide)) hZ1243 (tw175 hw) (tw2 hw) (by decide) (by decide)) (g := (mkF m 144 #[vi p1, vi p2, vi p3, .val cv2, .val cv0, vr uu86, vr uu89, vr b1219, vr uu91, .val cv3] [(.int p2), (.int p1), cv2, cv3, cv5, (.ref uu91)])) rfl (by rw [hml]; rfl) (argsL := [(.ref uu91), cv5, cv3, cv2, (.int p1), (.int p2)]) (rest := []) (lenOf pd_24 rfl) rfl (Nat.le_of_eq rfl) (hb hby at_144) (fun _ _ => ⟨rfl, eq1262, (by decide : 16 + 0 ≤ _), (by decide : 70 + 0 ≤ _)⟩)
      dsimp only [Pt.U, Pt.locs, Pt.cells, Pt.slots] at X1264 l1264 y1264 z1264 st1264 hQ1264
      subst l1264 y1264 z1264
      obtain ⟨rfl, N1264q, eq1264⟩ := hQ1264
      have N1265 := Fr.app N1263 N1264q
      refine GoH.step (fun _ k => st1264 _ (XS.ifNo X1264.here hx rfl (hb hby at_147) rfl ((if0 _ _).trans (feq (by decide)).1) (XS.aload X1264.here hx rfl (hb hby at_150) rfl rfl (XS.bipush X1264.here hx rfl (hb hby at_152) (XS.iload X1264.here hx rfl (hb hby at_154) rfl (XS.iloadN X1264.here hx rfl (hb hby at_156) rfl (XS.iloadN X1264.here hx rfl (hb hby at_157) rfl (XS.iloadN X1264.here hx rfl (hb hby at_158) rfl k)))))))) ?_
      show GoH p e below s _ _ _ T1264 (mkF m 159 #[vi p1, vi p2, vi p3, .val cv2, .val cv0, vr uu86, vr uu89, vr b1219, vr uu91, .val cv3] [(.int p2), (.int p1), cv2, cv3, cv6, (.ref uu91)])
      obtain ⟨_, _, ⟨T1266, L1266, k1266, n1266⟩, -, X1266, ⟨Lc1266, hQ1266, l1266, y1266, z1266⟩, st1266⟩ := Jvm.LawKit.callS X1264 hx (y := xm36) hown1243 (mvT hZ1243 (tw173 hw)) (mvT hZ1243 (tw174 hw)) (mvT hZ1243 (tw2 hw)) (mvT hZ1243 (tw175 hw)) (by decide) (backOf (W := 0) (rm_ObjectRefToStringPinLaw_ok_1 l Z a0 hw [] uu91 ci6 ci3 ci2 p1 p2 T1243.heap n0 f1251 (by decide)) hZ1243 (tw175 hw) (tw2 hw) (by decide) (by decide)) (g := (mkF m 159 #[vi p1, vi p2, vi p3, .val cv2, .val cv0, vr uu86, vr uu89, vr b1219, vr uu91, .val cv3] [(.int p2), (.int p1), cv2, cv3, cv6, (.ref uu91)])) rfl (by rw [hml]; rfl) (argsL := [(.ref uu91), cv6, cv3, cv2, (.int p1), (.int p2)]) (rest := []) (lenOf pd_24 rfl) rfl (Nat.le_of_eq rfl) (hb hby at_159) (fun _ _ => ⟨rfl, eq1264, (by decide : 16 + 0 ≤ _), (by decide : 70 + 0 ≤ _)⟩)
      dsimp only [Pt.U, Pt.locs, Pt.cells, Pt.slots] at X1266 l1266 y1266 z1266 st1266 hQ1266
      subst l1266 y1266 z1266
      obtain ⟨rfl, N1266q, eq1266⟩ := hQ1266
      have N1267 := Fr.app N1265 N1266q
      refine GoH.step (fun _ k => st1266 _ (XS.ifNo X1266.here hx rfl (hb hby at_162) rfl ((if0 _ _).trans (feq (by decide)).1) (XS.iconst X1266.here hx rfl (hb hby at_165) (XS.goto X1266.here hx rfl (pc0 := 166) (pc' := 170) rfl (hb hby at_166) (by decide) (by decide) k)))) ?_
      show GoH p e below s _ _ _ T1266 (mkF m 170 #[vi p1, vi p2, vi p3, .val cv2, .val cv0, vr uu86, vr uu89, vr b1219, vr uu91, .val cv3] [cv1])
      exact GoH.retN X1266 hS1243 hx hlk (t := .boolean) Bd.returns (by simp) (hb hby at_170) eq1266 (Nat.le_refl _) ⟨rfl, N1267⟩ (f1248.trans (CHv.at X1266 hZ1243 (own_EW hw) f1248.1)) (by decide) (by decide)
    · show GoH p e below s _ _ _ T1212 (mkF m 21 #[vi p1, vi p2, vi p3, .val cv2, .val cv1, vr uu86, .unset, .unset, .unset, .unset] [cv1, (.int p2)])
      have f1268 := (O0.keep K1212 all0)
      have f1269 := (Nat.le_trans Z0 K1212.1)
      obtain ⟨_, _, ⟨T1270, L1270, k1270, n1270⟩, -, X1270s, hs1270, hg1270, ⟨Lc1270, hQ1270, l1270, y1270, z1270, ch1270⟩, st1270⟩ := callSS X1212 hx (y := xm33) hown1212 (mvT hZ1212 (tw0 hw)) (mvT hZ1212 (tw1 hw)) (mvT hZ1212 (tw2 hw)) (mvT hZ1212 (tw3 hw)) (by decide) (backOfSH (W := 0) (rm_ObjectRefToStringPinLaw_make_1 l Z a0 hw [] p2 cs T1212.heap n0 f1269 Z_S_COMPACT_STRINGS f1268 hcs (own_c2 p2 ci0)) hZ1212 (tw3 hw) (tw2 hw) (by decide) (by decide) (own_EW hw) f1214.1) (g := (mkF m 21 #[vi p1, vi p2, vi p3, .val cv2, .val cv1, vr uu86, .unset, .unset, .unset, .unset] [cv1, (.int p2)])) rfl (by rw [hml]; rfl) (argsL := [(.int p2), cv1]) (rest := []) (lenOf pd_3 rfl) rfl (Nat.le_of_eq rfl) (hb hby at_21) (fun _ _ => ⟨rfl, rfl, (by decide : 3 + 3 ≤ _), (by decide : 8 + 6 ≤ _)⟩)
      dsimp only [Pt.U, Pt.locs, Pt.cells, Pt.slots] at X1270s hs1270 hg1270 l1270 y1270 z1270 st1270 hQ1270 ch1270
      subst l1270 y1270 z1270
      obtain ⟨X1270, hS1270, hZ1270, hown1270⟩ := rebS hS1212 (by exact (Nat.le_refl _)) X1270s hs1270 hg1270 hZ1212 hown1212
      obtain ⟨uu94, uu95, uu96, rfl, N1270q, K1270, P1270_0, P1270_1, P1270_2, P1270_3, P1270_4, P1270_5, P1270_6⟩ := hQ1270
      have N1271 := Fr.app N1213 N1270q
      have f1272 := f1214.trans ch1270
      refine GoH.step (fun _ k => st1270.trans (XS.astore X1270.here hx rfl (hb hby at_24) rfl rfl (l' := #[vi p1, vi p2, vi p3, .val cv2, .val cv1, vr uu86, vr uu94, .unset, .unset, .unset]) rfl k)) ?_
      show GoH p e below s _ _ _ T1270 (mkF m 26 #[vi p1, vi p2, vi p3, .val cv2, .val cv1, vr uu86, vr uu94, .unset, .unset, .unset] [])
      obtain ⟨T1273, h1273, X1273, e1273, E1273, A1273, D1273, -, st1273⟩ := newO X1270 hx hZ1270 hown1270 (tw40 hw) (tw41 hw) (tw42 hw) rfl (g := (mkF m 26 #[vi p1, vi p2, vi p3, .val cv2, .val cv1, vr uu86, vr uu94, .unset, .unset, .unset] [])) rfl (hb hby at_26) (by decide) (by decide)
      obtain ⟨b1273, g1273⟩ : ∃ z, z = T1270.heap.size := ⟨_, rfl⟩
      rw [← g1273] at A1273 D1273 st1273
      have f1274 : Fld Z h1273 b1273 xs3 "type" xs21 .null := D1273 (Or.inr (tw53 hw)) (ty := (.object xs25)) (by decide)
      have f1275 : Fld Z h1273 b1273 xs3 "id" xs21 .null := D1273 (Or.inr (tw55 hw)) (ty := (.object xs25)) (by decide)
      refine GoH.step (fun _ k => st1273 _ (XS.dup X1273.here hx rfl (hb hby at_29) rfl rfl (XS.aload X1273.here hx rfl (hb hby at_30) rfl rfl (XS.aload X1273.here hx rfl (hb hby at_32) rfl rfl k)))) ?_
      show GoH p e below s _ _ _ T1273 (mkF m 34 #[vi p1, vi p2, vi p3, .val cv2, .val cv1, vr uu86, vr uu94, .unset, .unset, .unset] [(.ref uu94), (.ref uu86), (.ref b1273), (.ref b1273)])
      have f1276 := (Nat.le_trans (Nat.le_trans f1269 K1270.1) E1273.1)
      have f1277 := (Nat.le_trans f1269 K1270.1)
      have g1278 := Nat.le_trans f1277 (Nat.le_of_eq g1273.symm)
      obtain ⟨_, _, ⟨T1279, L1279, k1279, n1279⟩, -, X1279, ⟨Lc1279, hQ1279, l1279, y1279, z1279⟩, st1279⟩ := X1273.specialBack hx (y := xm31) rfl hown1270 (mvT hZ1270 (tw43 hw)) (mvT hZ1270 (tw44 hw)) (mvT hZ1270 (tw45 hw)) (by decide) (backOf (W := 1) (rm_ObjectRef_new_0 l Z a0 hw [] b1273 uu86 uu94 h1273 n0 f1276 A1273 f1274 g1278 f1275) hZ1270 (tw45 hw) (tw42 hw) (by decide) (by decide)) (g := (mkF m 34 #[vi p1, vi p2, vi p3, .val cv2, .val cv1, vr uu86, vr uu94, .unset, .unset, .unset] [(.ref uu94), (.ref uu86), (.ref b1273), (.ref b1273)])) rfl (by rw [hml]; rfl) (Steps.refl _) (a := b1273) (argsL := [(.ref uu86), (.ref uu94)]) (rest := [(.ref b1273)]) (lenOf pd_5 rfl) rfl (Nat.le_of_eq rfl) (hb hby at_34) (fun _ _ => ⟨rfl, e1273, (by decide : 7 + 0 ≤ _), (by decide : 16 + 0 ≤ _)⟩)
      dsimp only [Pt.U, Pt.locs, Pt.cells, Pt.slots] at X1279 l1279 y1279 z1279 st1279 hQ1279
      subst l1279 y1279 z1279
      obtain ⟨rfl, N1279q, K1279, P1279_0, P1279_1⟩ := hQ1279
      have N1280 := Fr.app N1271 N1279q
      refine GoH.step (fun _ k => st1279.trans (XS.astore X1279.here hx rfl (hb hby at_37) rfl rfl (l' := #[vi p1, vi p2, vi p3, .val cv2, .val cv1, vr uu86, vr uu94, vr b1273, .unset, .unset]) rfl (XS.aload X1279.here hx rfl (hb hby at_39) rfl rfl k))) ?_
      show GoH p e below s _ _ _ T1279 (mkF m 41 #[vi p1, vi p2, vi p3, .val cv2, .val cv1, vr uu86, vr uu94, vr b1273, .unset, .unset] [(.ref b1273)])
      have f1281 := (((f1268.keep K1270 all0).ext E1273).keep K1279 (allS g1278 all0))
      have f1282 := (Nat.le_trans f1276 K1279.1)
      have f1283 := (((P1212_1.keep K1270).ext E1273).keep K1279)
      have f1284 := (P1212_1.keep K1270)
      have ne1285 : uu86 ≠ b1273 := Nat.ne_of_lt (Nat.lt_of_lt_of_le f1284.lt (Nat.le_of_eq g1273.symm))
      have f1286 := (((P1212_3.keep K1270 nin0).ext E1273).keep K1279 (ninS ne1285 nin0))
      have f1287 := (P1212_5.keep K1270 nin0)
      have ne1288 : uu87 ≠ b1273 := Nat.ne_of_lt (Nat.lt_of_lt_of_le f1287.lt (Nat.le_of_eq g1273.symm))
      have f1289 := (((P1212_5.keep K1270 nin0).ext E1273).keep K1279 (ninS ne1288 nin0))
      have f1290 := (((P1212_2.keep K1270 nin0).ext E1273).keep K1279 (ninS ne1285 nin0))
      have f1291 := ((P1270_1.ext E1273).keep K1279)
      have ne1292 : uu94 ≠ b1273 := Nat.ne_of_lt (Nat.lt_of_lt_of_le P1270_1.lt (Nat.le_of_eq g1273.symm))
      have f1293 := ((P1270_3.ext E1273).keep K1279 (ninS ne1292 nin0))
      have ne1294 : uu95 ≠ b1273 := Nat.ne_of_lt (Nat.lt_of_lt_of_le P1270_5.lt (Nat.le_of_eq g1273.symm))
      have f1295 := ((P1270_5.ext E1273).keep K1279 (ninS ne1294 nin0))
      have f1296 := ((P1270_2.ext E1273).keep K1279 (ninS ne1292 nin0))
      have f1298 := (own_chK (own_chE f1272 E1273) K1279 (sfS (Safe.exa hZ1270.alike A1273 (by decide) (by decide)) sf0))
      have f1299 := (A1273.keep K1279)
      obtain ⟨cq1297, kq1297, q1297a, q1297b, q1297c⟩ := isOf hZ1270 rfl f1299
      obtain ⟨_, _, ⟨T1297, L1297, k1297, n1297⟩, -, X1297s, hs1297, hg1297, ⟨Lc1297, hQ1297, l1297, y1297, z1297, ch1297⟩, st1297⟩ := X1279.virtualBackS hx (y := xm21) (z := xm21) hown1270 (mvT hZ1270 (tw56 hw)) (mvT hZ1270 (tw57 hw)) (notFace_of_selects (args := #[]) (mvT hZ1270 (tw59 hw))) (mvT hZ1270 (tw59 hw)) (mvT hZ1270 (tw58 hw)) (by decide) (backOfSH (W := 0) (rm_ObjectRef_toString_0 l Z a0 hw [] b1273 cs uu86 uu87 uu88 ci2 ([(.int (nar .byte ((nar .char (own_ch p1 ci0)).toInt8.toInt32))), (.int (nar .byte ((nar .char (own_ch p1 ci1)).toInt8.toInt32)))]) uu94 uu95 uu96 ci1 ([(.int (nar .byte ((nar .char (own_ch p2 ci0)).toInt8.toInt32)))]) T1279.heap n0 f1282 Z_S_COMPACT_STRINGS f1281 hcs P1279_0 f1283 f1286 f1289 f1290 (by decide) (by decide) (Nat.le_of_ble_eq_true rfl) (Nat.le_of_ble_eq_true rfl) (Nat.le_of_ble_eq_true rfl) (by decide) (by decide) (Nat.le_of_ble_eq_true rfl) (Nat.le_of_ble_eq_true rfl) P1279_1 f1291 f1293 f1295 f1296 (by decide) (by decide) (by decide) (Nat.le_of_ble_eq_true rfl) (Nat.le_of_ble_eq_true rfl) (Nat.le_of_ble_eq_true rfl) (by decide) (by decide) (by decide) (Nat.le_of_ble_eq_true rfl) (by decide) (Nat.le_of_ble_eq_true rfl) (Nat.le_of_ble_eq_true rfl) (Nat.le_of_ble_eq_true rfl)) hZ1270 (tw60 hw) (tw42 hw) (by decide) (by decide) (own_EW hw) f1298.1) q1297a q1297c (g := (mkF m 41 #[vi p1, vi p2, vi p3, .val cv2, .val cv1, vr uu86, vr uu94, vr b1273, .unset, .unset] [(.ref b1273)])) rfl (by rw [hml]; rfl) (Steps.refl _) (argsL := []) (rest := []) (lenOf pd_21 rfl) rfl (Nat.le_of_eq rfl) (hb hby at_41) (fun _ _ => ⟨rfl, rfl, (by decide : 7 + 6 ≤ _), (by decide : 16 + 48 ≤ _)⟩)
      dsimp only [Pt.U, Pt.locs, Pt.cells, Pt.slots] at X1297s hs1297 hg1297 l1297 y1297 z1297 st1297 hQ1297 ch1297
      subst l1297 y1297 z1297
      have f1300 := (Nat.le_trans (Nat.le_trans (Nat.le_refl _) E1273.1) K1279.1)
      obtain ⟨X1297, hS1297, hZ1297, hown1297⟩ := rebS hS1270 (by exact f1300) X1297s hs1297 hg1297 hZ1270 hown1270
      obtain ⟨uu97, uu98, uu99, rfl, N1297q, K1297, P1297_0, P1297_1, P1297_2, P1297_3, P1297_4, P1297_5, P1297_6⟩ := hQ1297
      have N1301 := Fr.app N1280 N1297q
      have f1302 := f1298.trans ch1297
      refine GoH.step (fun _ k => st1297.trans k) ?_
      show GoH p e below s _ _ _ T1297 (mkF m 44 #[vi p1, vi p2, vi p3, .val cv2, .val cv1, vr uu86, vr uu94, vr b1273, .unset, .unset] [(.ref uu97)])
      have f1303 : Arv Z T1297.heap uu98 uu99 .byte ci4 [(.int (nar .byte ((nar .char (own_ch p1 ci0)).toInt8.toInt32))), (.int (nar .byte ((nar .char (own_ch p1 ci1)).toInt8.toInt32))), cv58, (.int (nar .byte ((nar .char (own_ch p2 ci0)).toInt8.toInt32)))] cv0 := P1297_5
      refine GoH.step (fun _ k => XS.astore X1297.here hx rfl (hb hby at_44) rfl rfl (l' := #[vi p1, vi p2, vi p3, .val cv2, .val cv1, vr uu86, vr uu94, vr b1273, vr uu97, .unset]) rfl (XS.iloadN X1297.here hx rfl (hb hby at_46) rfl (XS.iconst X1297.here hx rfl (hb hby at_47) (XS.iadd X1297.here hx rfl (hb hby at_48) rfl (XS.iload X1297.here hx rfl (hb hby at_49) rfl (XS.iadd X1297.here hx rfl (hb hby at_51) rfl (XS.istore X1297.here hx rfl (hb hby at_52) rfl (l' := #[vi p1, vi p2, vi p3, .val cv2, .val cv1, vr uu86, vr uu94, vr b1273, vr uu97, .val cv4]) rfl (XS.aload X1297.here hx rfl (hb hby at_54) rfl rfl k)))))))) ?_
      show GoH p e below s _ _ _ T1297 (mkF m 56 #[vi p1, vi p2, vi p3, .val cv2, .val cv1, vr uu86, vr uu94, vr b1273, vr uu97, .val cv4] [(.ref uu97)])
      have f1304 := (f1281.keep K1297 all0)
      have f1305 := (Nat.le_trans f1282 K1297.1)
      obtain ⟨cq1306, kq1306, q1306a, q1306b, q1306c⟩ := isOf hZ1297 rfl P1297_1
      obtain ⟨_, _, ⟨T1306, L1306, k1306, n1306⟩, -, X1306, ⟨Lc1306, hQ1306, l1306, y1306, z1306⟩, st1306⟩ := X1297.virtualBack hx (y := xm19) (z := xm19) hown1297 (mvT hZ1297 (tw172 hw)) (mvT hZ1297 (tw90 hw)) (notFace_of_selects (args := #[]) (mvT hZ1297 (tw92 hw))) (mvT hZ1297 (tw92 hw)) (mvT hZ1297 (tw91 hw)) (by decide) (backOf (W := 0) (rm_String_length_0 l Z a0 hw [] uu97 uu98 uu99 ci4 ([(.int (nar .byte ((nar .char (own_ch p1 ci0)).toInt8.toInt32))), (.int (nar .byte ((nar .char (own_ch p1 ci1)).toInt8.toInt32))), cv58, (.int (nar .byte ((nar .char (own_ch p2 ci0)).toInt8.toInt32)))]) cs T1297.heap n0 f1305 P1297_3 f1303 P1297_1 Z_S_COMPACT_STRINGS f1304 hcs P1297_2) hZ1297 (tw93 hw) (tw6 hw) (by decide) (by decide)) q1306a q1306c (g := (mkF m 56 #[vi p1, vi p2, vi p3, .val cv2, .val cv1, vr uu86, vr uu94, vr b1273, vr uu97, .val cv4] [(.ref uu97)])) rfl (by rw [hml]; rfl) (Steps.refl _) (argsL := []) (rest := []) (lenOf pd_8 rfl) rfl (Nat.le_of_eq rfl) (hb hby at_56) (fun _ _ => ⟨rfl, rfl, (by decide : 13 + 0 ≤ _), (by decide : 64 + 0 ≤ _)⟩)
      dsimp only [Pt.U, Pt.locs, Pt.cells, Pt.slots] at X1306 l1306 y1306 z1306 st1306 hQ1306
      subst l1306 y1306 z1306
      obtain ⟨rfl, N1306q, eq1306⟩ := hQ1306
      have N1307 := Fr.app N1301 N1306q
      refine GoH.step (fun _ k => st1306.trans (XS.iload X1306.here hx rfl (hb hby at_59) rfl (XS.icmpYes X1306.here hx rfl (pc0 := 61) (pc' := 66) rfl (hb hby at_61) rfl (teq (by decide)).1 (by decide) (by decide) (XS.aload X1306.here hx rfl (hb hby at_66) rfl rfl (XS.iconst X1306.here hx rfl (hb hby at_68) (XS.iload X1306.here hx rfl (hb hby at_69) rfl (XS.iloadN X1306.here hx rfl (hb hby at_71) rfl (XS.iloadN X1306.here hx rfl (hb hby at_72) rfl (XS.iloadN X1306.here hx rfl (hb hby at_73) rfl k))))))))) ?_
      show GoH p e below s _ _ _ T1306 (mkF m 74 #[vi p1, vi p2, vi p3, .val cv2, .val cv1, vr uu86, vr uu94, vr b1273, vr uu97, .val cv4] [(.int p2), (.int p1), cv2, cv4, cv0, (.ref uu97)])
      obtain ⟨_, _, ⟨T1308, L1308, k1308, n1308⟩, -, X1308, ⟨Lc1308, hQ1308, l1308, y1308, z1308⟩, st1308⟩ := Jvm.LawKit.callS X1306 hx (y := xm36) hown1297 (mvT hZ1297 (tw173 hw)) (mvT hZ1297 (tw174 hw)) (mvT hZ1297 (tw2 hw)) (mvT hZ1297 (tw175 hw)) (by decide) (backOf (W := 0) (rm_ObjectRefToStringPinLaw_ok_3 l Z a0 hw [] uu97 ci0 ci4 ci2 p1 p2 uu98 uu99 ci4 ([(.int (nar .byte ((nar .char (own_ch p1 ci0)).toInt8.toInt32))), (.int (nar .byte ((nar .char (own_ch p1 ci1)).toInt8.toInt32))), cv58, (.int (nar .byte ((nar .char (own_ch p2 ci0)).toInt8.toInt32)))]) (nar .byte ((nar .char (own_ch p1 ci0)).toInt8.toInt32)) cs fv T1297.heap n0 f1305 (by decide) (by decide) P1297_1 P1297_2 P1297_3 f1303 rfl Z_S_COMPACT_STRINGS Z_S_SIOOBE_FORMATTER f1304 hcs hfv (by decide) (by decide) (own_rt p1 ci0)) hZ1297 (tw175 hw) (tw2 hw) (by decide) (by decide)) (g := (mkF m 74 #[vi p1, vi p2, vi p3, .val cv2, .val cv1, vr uu86, vr uu94, vr b1273, vr uu97, .val cv4] [(.int p2), (.int p1), cv2, cv4, cv0, (.ref uu97)])) rfl (by rw [hml]; rfl) (argsL := [(.ref uu97), cv0, cv4, cv2, (.int p1), (.int p2)]) (rest := []) (lenOf pd_24 rfl) rfl (Nat.le_of_eq rfl) (hb hby at_74) (fun _ _ => ⟨rfl, eq1306, (by decide : 13 + 0 ≤ _), (by decide : 64 + 0 ≤ _)⟩)
      dsimp only [Pt.U, Pt.locs, Pt.cells, Pt.slots] at X1308 l1308 y1308 z1308 st1308 hQ1308
      subst l1308 y1308 z1308
      obtain ⟨rfl, N1308q, eq1308⟩ := hQ1308
      have N1309 := Fr.app N1307 N1308q
      refine GoH.step (fun _ k => st1308 _ (XS.ifNo X1308.here hx rfl (hb hby at_77) rfl ((if0 _ _).trans (feq (by decide)).1) (XS.aload X1308.here hx rfl (hb hby at_80) rfl rfl (XS.iconst X1308.here hx rfl (hb hby at_82) (XS.iload X1308.here hx rfl (hb hby at_83) rfl (XS.iloadN X1308.here hx rfl (hb hby at_85) rfl (XS.iloadN X1308.here hx rfl (hb hby at_86) rfl (XS.iloadN X1308.here hx rfl (hb hby at_87) rfl k)))))))) ?_
      show GoH p e below s _ _ _ T1308 (mkF m 88 #[vi p1, vi p2, vi p3, .val cv2, .val cv1, vr uu86, vr uu94, vr b1273, vr uu97, .val cv4] [(.int p2), (.int p1), cv2, cv4, cv1, (.ref uu97)])
      obtain ⟨_, _, ⟨T1310, L1310, k1310, n1310⟩, -, X1310, ⟨Lc1310, hQ1310, l1310, y1310, z1310⟩, st1310⟩ := Jvm.LawKit.callS X1308 hx (y := xm36) hown1297 (mvT hZ1297 (tw173 hw)) (mvT hZ1297 (tw174 hw)) (mvT hZ1297 (tw2 hw)) (mvT hZ1297 (tw175 hw)) (by decide) (backOf (W := 0) (rm_ObjectRefToStringPinLaw_ok_3 l Z a0 hw [] uu97 ci1 ci4 ci2 p1 p2 uu98 uu99 ci4 ([(.int (nar .byte ((nar .char (own_ch p1 ci0)).toInt8.toInt32))), (.int (nar .byte ((nar .char (own_ch p1 ci1)).toInt8.toInt32))), cv58, (.int (nar .byte ((nar .char (own_ch p2 ci0)).toInt8.toInt32)))]) (nar .byte ((nar .char (own_ch p1 ci1)).toInt8.toInt32)) cs fv T1297.heap n0 f1305 (by decide) (by decide) P1297_1 P1297_2 P1297_3 f1303 rfl Z_S_COMPACT_STRINGS Z_S_SIOOBE_FORMATTER f1304 hcs hfv (by decide) (by decide) (own_rt p1 ci1)) hZ1297 (tw175 hw) (tw2 hw) (by decide) (by decide)) (g := (mkF m 88 #[vi p1, vi p2, vi p3, .val cv2, .val cv1, vr uu86, vr uu94, vr b1273, vr uu97, .val cv4] [(.int p2), (.int p1), cv2, cv4, cv1, (.ref uu97)])) rfl (by rw [hml]; rfl) (argsL := [(.ref uu97), cv1, cv4, cv2, (.int p1), (.int p2)]) (rest := []) (lenOf pd_24 rfl) rfl (Nat.le_of_eq rfl) (hb hby at_88) (fun _ _ => ⟨rfl, eq1308, (by decide : 13 + 0 ≤ _), (by decide : 64 + 0 ≤ _)⟩)
      dsimp only [Pt.U, Pt.locs, Pt.cells, Pt.slots] at X1310 l1310 y1310 z1310 st1310 hQ1310
      subst l1310 y1310 z1310
      obtain ⟨rfl, N1310q, eq1310⟩ := hQ1310
      have N1311 := Fr.app N1309 N1310q
      refine GoH.step (fun _ k => st1310 _ (XS.ifNo X1310.here hx rfl (hb hby at_91) rfl ((if0 _ _).trans (feq (by decide)).1) (XS.aload X1310.here hx rfl (hb hby at_94) rfl rfl (XS.iconst X1310.here hx rfl (hb hby at_96) (XS.iload X1310.here hx rfl (hb hby at_97) rfl (XS.iloadN X1310.here hx rfl (hb hby at_99) rfl (XS.iloadN X1310.here hx rfl (hb hby at_100) rfl (XS.iloadN X1310.here hx rfl (hb hby at_101) rfl k)))))))) ?_
      show GoH p e below s _ _ _ T1310 (mkF m 102 #[vi p1, vi p2, vi p3, .val cv2, .val cv1, vr uu86, vr uu94, vr b1273, vr uu97, .val cv4] [(.int p2), (.int p1), cv2, cv4, cv2, (.ref uu97)])
      obtain ⟨_, _, ⟨T1312, L1312, k1312, n1312⟩, -, X1312, ⟨Lc1312, hQ1312, l1312, y1312, z1312⟩, st1312⟩ := Jvm.LawKit.callS X1310 hx (y := xm36) hown1297 (mvT hZ1297 (tw173 hw)) (mvT hZ1297 (tw174 hw)) (mvT hZ1297 (tw2 hw)) (mvT hZ1297 (tw175 hw)) (by decide) (backOf (W := 0) (rm_ObjectRefToStringPinLaw_ok_0 l Z a0 hw [] uu97 ci2 ci4 ci2 p1 p2 cs uu98 uu99 ci4 ([(.int (nar .byte ((nar .char (own_ch p1 ci0)).toInt8.toInt32))), (.int (nar .byte ((nar .char (own_ch p1 ci1)).toInt8.toInt32))), cv58, (.int (nar .byte ((nar .char (own_ch p2 ci0)).toInt8.toInt32)))]) fv ci58 T1297.heap n0 f1305 (by decide) (by decide) rfl P1297_1 Z_S_COMPACT_STRINGS f1304 hcs P1297_2 P1297_3 f1303 Z_S_SIOOBE_FORMATTER hfv rfl (by decide) (by decide) (by decide)) hZ1297 (tw175 hw) (tw2 hw) (by decide) (by decide)) (g := (mkF m 102 #[vi p1, vi p2, vi p3, .val cv2, .val cv1, vr uu86, vr uu94, vr b1273, vr uu97, .val cv4] [(.int p2), (.int p1), cv2, cv4, cv2, (.ref uu97)])) rfl (by rw [hml]; rfl) (argsL := [(.ref uu97), cv2, cv4, cv2, (.int p1), (.int p2)]) (rest := []) (lenOf pd_24 rfl) rfl (Nat.le_of_eq rfl) (hb hby at_102) (fun _ _ => ⟨rfl, eq1310, (by decide : 13 + 0 ≤ _), (by decide : 64 + 0 ≤ _)⟩)
      dsimp only [Pt.U, Pt.locs, Pt.cells, Pt.slots] at X1312 l1312 y1312 z1312 st1312 hQ1312
      subst l1312 y1312 z1312
      obtain ⟨rfl, N1312q, eq1312⟩ := hQ1312
      have N1313 := Fr.app N1311 N1312q
      refine GoH.step (fun _ k => st1312 _ (XS.ifNo X1312.here hx rfl (hb hby at_105) rfl ((if0 _ _).trans (feq (by decide)).1) (XS.aload X1312.here hx rfl (hb hby at_108) rfl rfl (XS.iconst X1312.here hx rfl (hb hby at_110) (XS.iload X1312.here hx rfl (hb hby at_111) rfl (XS.iloadN X1312.here hx rfl (hb hby at_113) rfl (XS.iloadN X1312.here hx rfl (hb hby at_114) rfl (XS.iloadN X1312.here hx rfl (hb hby at_115) rfl k)))))))) ?_
      show GoH p e below s _ _ _ T1312 (mkF m 116 #[vi p1, vi p2, vi p3, .val cv2, .val cv1, vr uu86, vr uu94, vr b1273, vr uu97, .val cv4] [(.int p2), (.int p1), cv2, cv4, cv3, (.ref uu97)])
      obtain ⟨_, _, ⟨T1314, L1314, k1314, n1314⟩, -, X1314, ⟨Lc1314, hQ1314, l1314, y1314, z1314⟩, st1314⟩ := Jvm.LawKit.callS X1312 hx (y := xm36) hown1297 (mvT hZ1297 (tw173 hw)) (mvT hZ1297 (tw174 hw)) (mvT hZ1297 (tw2 hw)) (mvT hZ1297 (tw175 hw)) (by decide) (backOf (W := 0) (rm_ObjectRefToStringPinLaw_ok_2 l Z a0 hw [] uu97 ci3 ci4 ci2 p1 p2 uu98 uu99 ci4 ([(.int (nar .byte ((nar .char (own_ch p1 ci0)).toInt8.toInt32))), (.int (nar .byte ((nar .char (own_ch p1 ci1)).toInt8.toInt32))), cv58, (.int (nar .byte ((nar .char (own_ch p2 ci0)).toInt8.toInt32)))]) (nar .byte ((nar .char (own_ch p2 ci0)).toInt8.toInt32)) cs fv T1297.heap n0 f1305 (by decide) (by decide) (by decide) P1297_1 P1297_2 P1297_3 f1303 rfl Z_S_COMPACT_STRINGS Z_S_SIOOBE_FORMATTER f1304 hcs hfv (by decide) (by decide) (own_rt p2 ci0)) hZ1297 (tw175 hw) (tw2 hw) (by decide) (by decide)) (g := (mkF m 116 #[vi p1, vi p2, vi p3, .val cv2, .val cv1, vr uu86, vr uu94, vr b1273, vr uu97, .val cv4] [(.int p2), (.int p1), cv2, cv4, cv3, (.ref uu97)])) rfl (by rw [hml]; rfl) (argsL := [(.ref uu97), cv3, cv4, cv2, (.int p1), (.int p2)]) (rest := []) (lenOf pd_24 rfl) rfl (Nat.le_of_eq rfl) (hb hby at_116) (fun _ _ => ⟨rfl, eq1312, (by decide : 13 + 0 ≤ _), (by decide : 64 + 0 ≤ _)⟩)
      dsimp only [Pt.U, Pt.locs, Pt.cells, Pt.slots] at X1314 l1314 y1314 z1314 st1314 hQ1314
      subst l1314 y1314 z1314
      obtain ⟨rfl, N1314q, eq1314⟩ := hQ1314
      have N1315 := Fr.app N1313 N1314q
      refine GoH.step (fun _ k => st1314 _ (XS.ifNo X1314.here hx rfl (hb hby at_119) rfl ((if0 _ _).trans (feq (by decide)).1) (XS.aload X1314.here hx rfl (hb hby at_122) rfl rfl (XS.iconst X1314.here hx rfl (hb hby at_124) (XS.iload X1314.here hx rfl (hb hby at_125) rfl (XS.iloadN X1314.here hx rfl (hb hby at_127) rfl (XS.iloadN X1314.here hx rfl (hb hby at_128) rfl (XS.iloadN X1314.here hx rfl (hb hby at_129) rfl k)))))))) ?_
      show GoH p e below s _ _ _ T1314 (mkF m 130 #[vi p1, vi p2, vi p3, .val cv2, .val cv1, vr uu86, vr uu94, vr b1273, vr uu97, .val cv4] [(.int p2), (.int p1), cv2, cv4, cv4, (.ref uu97)])
      obtain ⟨_, _, ⟨T1316, L1316, k1316, n1316⟩, -, X1316, ⟨Lc1316, hQ1316, l1316, y1316, z1316⟩, st1316⟩ := Jvm.LawKit.callS X1314 hx (y := xm36) hown1297 (mvT hZ1297 (tw173 hw)) (mvT hZ1297 (tw174 hw)) (mvT hZ1297 (tw2 hw)) (mvT hZ1297 (tw175 hw)) (by decide) (backOf (W := 0) (rm_ObjectRefToStringPinLaw_ok_1 l Z a0 hw [] uu97 ci4 ci4 ci2 p1 p2 T1297.heap n0 f1305 (by decide)) hZ1297 (tw175 hw) (tw2 hw) (by decide) (by decide)) (g := (mkF m 130 #[vi p1, vi p2, vi p3, .val cv2, .val cv1, vr uu86, vr uu94, vr b1273, vr uu97, .val cv4] [(.int p2), (.int p1), cv2, cv4, cv4, (.ref uu97)])) rfl (by rw [hml]; rfl) (argsL := [(.ref uu97), cv4, cv4, cv2, (.int p1), (.int p2)]) (rest := []) (lenOf pd_24 rfl) rfl (Nat.le_of_eq rfl) (hb hby at_130) (fun _ _ => ⟨rfl, eq1314, (by decide : 13 + 0 ≤ _), (by decide : 64 + 0 ≤ _)⟩)
      dsimp only [Pt.U, Pt.locs, Pt.cells, Pt.slots] at X1316 l1316 y1316 z1316 st1316 hQ1316
      subst l1316 y1316 z1316
      obtain ⟨rfl, N1316q, eq1316⟩ := hQ1316
      have N1317 := Fr.app N1315 N1316q
      refine GoH.step (fun _ k => st1316 _ (XS.ifNo X1316.here hx rfl (hb hby at_133) rfl ((if0 _ _).trans (feq (by decide)).1) (XS.aload X1316.here hx rfl (hb hby at_136) rfl rfl (XS.iconst X1316.here hx rfl (hb hby at_138) (XS.iload X1316.here hx rfl (hb hby at_139) rfl (XS.iloadN X1316.here hx rfl (hb hby at_141) rfl (XS.iloadN X1316.here hx rfl (hb hby at_142) rfl (XS.iloadN X1316.here hx rfl (hb hby at_143) rfl k)))))))) ?_
      show GoH p e below s _ _ _ T1316 (mkF m 144 #[vi p1, vi p2, vi p3, .val cv2, .val cv1, vr uu86, vr uu94, vr b1273, vr uu97, .val cv4] [(.int p2), (.int p1), cv2, cv4, cv5, (.ref uu97)])
      obtain ⟨_, _, ⟨T1318, L1318, k1318, n1318⟩, -, X1318, ⟨Lc1318, hQ1318, l1318, y1318, z1318⟩, st1318⟩ := Jvm.LawKit.callS X1316 hx (y := xm36) hown1297 (mvT hZ1297 (tw173 hw)) (mvT hZ1297 (tw174 hw)) (mvT hZ1297 (tw2 hw)) (mvT hZ1297 (tw175 hw)) (by decide) (backOf (W := 0) (rm_ObjectRefToStringPinLaw_ok_1 l Z a0 hw [] uu97 ci5 ci4 ci2 p1 p2 T1297.heap n0 f1305 (by decide)) hZ1297 (tw175 hw) (tw2 hw) (by decide) (by decide)) (g := (mkF m 144 #[vi p1, vi p2, vi p3, .val cv2, .val cv1, vr uu86, vr uu94, vr b1273, vr uu97, .val cv4] [(.int p2), (.int p1), cv2, cv4, cv5, (.ref uu97)])) rfl (by rw [hml]; rfl) (argsL := [(.ref uu97), cv5, cv4, cv2, (.int p1), (.int p2)]) (rest := []) (lenOf pd_24 rfl) rfl (Nat.le_of_eq rfl) (hb hby at_144) (fun _ _ => ⟨rfl, eq1316, (by decide : 13 + 0 ≤ _), (by decide : 64 + 0 ≤ _)⟩)
      dsimp only [Pt.U, Pt.locs, Pt.cells, Pt.slots] at X1318 l1318 y1318 z1318 st1318 hQ1318
      subst l1318 y1318 z1318
      obtain ⟨rfl, N1318q, eq1318⟩ := hQ1318
      have N1319 := Fr.app N1317 N1318q
      refine GoH.step (fun _ k => st1318 _ (XS.ifNo X1318.here hx rfl (hb hby at_147) rfl ((if0 _ _).trans (feq (by decide)).1) (XS.aload X1318.here hx rfl (hb hby at_150) rfl rfl (XS.bipush X1318.here hx rfl (hb hby at_152) (XS.iload X1318.here hx rfl (hb hby at_154) rfl (XS.iloadN X1318.here hx rfl (hb hby at_156) rfl (XS.iloadN X1318.here hx rfl (hb hby at_157) rfl (XS.iloadN X1318.here hx rfl (hb hby at_158) rfl k)))))))) ?_
      show GoH p e below s _ _ _ T1318 (mkF m 159 #[vi p1, vi p2, vi p3, .val cv2, .val cv1, vr uu86, vr uu94, vr b1273, vr uu97, .val cv4] [(.int p2), (.int p1), cv2, cv4, cv6, (.ref uu97)])
      obtain ⟨_, _, ⟨T1320, L1320, k1320, n1320⟩, -, X1320, ⟨Lc1320, hQ1320, l1320, y1320, z1320⟩, st1320⟩ := Jvm.LawKit.callS X1318 hx (y := xm36) hown1297 (mvT hZ1297 (tw173 hw)) (mvT hZ1297 (tw174 hw)) (mvT hZ1297 (tw2 hw)) (mvT hZ1297 (tw175 hw)) (by decide) (backOf (W := 0) (rm_ObjectRefToStringPinLaw_ok_1 l Z a0 hw [] uu97 ci6 ci4 ci2 p1 p2 T1297.heap n0 f1305 (by decide)) hZ1297 (tw175 hw) (tw2 hw) (by decide) (by decide)) (g := (mkF m 159 #[vi p1, vi p2, vi p3, .val cv2, .val cv1, vr uu86, vr uu94, vr b1273, vr uu97, .val cv4] [(.int p2), (.int p1), cv2, cv4, cv6, (.ref uu97)])) rfl (by rw [hml]; rfl) (argsL := [(.ref uu97), cv6, cv4, cv2, (.int p1), (.int p2)]) (rest := []) (lenOf pd_24 rfl) rfl (Nat.le_of_eq rfl) (hb hby at_159) (fun _ _ => ⟨rfl, eq1318, (by decide : 13 + 0 ≤ _), (by decide : 64 + 0 ≤ _)⟩)
      dsimp only [Pt.U, Pt.locs, Pt.cells, Pt.slots] at X1320 l1320 y1320 z1320 st1320 hQ1320
      subst l1320 y1320 z1320
      obtain ⟨rfl, N1320q, eq1320⟩ := hQ1320
      have N1321 := Fr.app N1319 N1320q
      refine GoH.step (fun _ k => st1320 _ (XS.ifNo X1320.here hx rfl (hb hby at_162) rfl ((if0 _ _).trans (feq (by decide)).1) (XS.iconst X1320.here hx rfl (hb hby at_165) (XS.goto X1320.here hx rfl (pc0 := 166) (pc' := 170) rfl (hb hby at_166) (by decide) (by decide) k)))) ?_
      show GoH p e below s _ _ _ T1320 (mkF m 170 #[vi p1, vi p2, vi p3, .val cv2, .val cv1, vr uu86, vr uu94, vr b1273, vr uu97, .val cv4] [cv1])
      exact GoH.retN X1320 hS1297 hx hlk (t := .boolean) Bd.returns (by simp) (hb hby at_170) eq1320 (Nat.le_refl _) ⟨rfl, N1321⟩ (f1302.trans (CHv.at X1320 hZ1297 (own_EW hw) f1302.1)) (by decide) (by decide)
    · show GoH p e below s _ _ _ T1212 (mkF m 21 #[vi p1, vi p2, vi p3, .val cv2, .val cv2, vr uu86, .unset, .unset, .unset, .unset] [cv2, (.int p2)])
      have f1322 := (O0.keep K1212 all0)
      have f1323 := (Nat.le_trans Z0 K1212.1)
      obtain ⟨_, _, ⟨T1324, L1324, k1324, n1324⟩, -, X1324s, hs1324, hg1324, ⟨Lc1324, hQ1324, l1324, y1324, z1324, ch1324⟩, st1324⟩ := callSS X1212 hx (y := xm33) hown1212 (mvT hZ1212 (tw0 hw)) (mvT hZ1212 (tw1 hw)) (mvT hZ1212 (tw2 hw)) (mvT hZ1212 (tw3 hw)) (by decide) (backOfSH (W := 0) (rm_ObjectRefToStringPinLaw_make_2 l Z a0 hw [] p2 cs T1212.heap n0 f1323 Z_S_COMPACT_STRINGS f1322 hcs (own_c2 p2 ci0) (own_c2 p2 ci1)) hZ1212 (tw3 hw) (tw2 hw) (by decide) (by decide) (own_EW hw) f1214.1) (g := (mkF m 21 #[vi p1, vi p2, vi p3, .val cv2, .val cv2, vr uu86, .unset, .unset, .unset, .unset] [cv2, (.int p2)])) rfl (by rw [hml]; rfl) (argsL := [(.int p2), cv2]) (rest := []) (lenOf pd_3 rfl) rfl (Nat.le_of_eq rfl) (hb hby at_21) (fun _ _ => ⟨rfl, rfl, (by decide : 3 + 3 ≤ _), (by decide : 8 + 8 ≤ _)⟩)
      dsimp only [Pt.U, Pt.locs, Pt.cells, Pt.slots] at X1324s hs1324 hg1324 l1324 y1324 z1324 st1324 hQ1324 ch1324
      subst l1324 y1324 z1324
      obtain ⟨X1324, hS1324, hZ1324, hown1324⟩ := rebS hS1212 (by exact (Nat.le_refl _)) X1324s hs1324 hg1324 hZ1212 hown1212
      obtain ⟨uu100, uu101, uu102, rfl, N1324q, K1324, P1324_0, P1324_1, P1324_2, P1324_3, P1324_4, P1324_5, P1324_6⟩ := hQ1324
      have N1325 := Fr.app N1213 N1324q
      have f1326 := f1214.trans ch1324
      refine GoH.step (fun _ k => st1324.trans (XS.astore X1324.here hx rfl (hb hby at_24) rfl rfl (l' := #[vi p1, vi p2, vi p3, .val cv2, .val cv2, vr uu86, vr uu100, .unset, .unset, .unset]) rfl k)) ?_
      show GoH p e below s _ _ _ T1324 (mkF m 26 #[vi p1, vi p2, vi p3, .val cv2, .val cv2, vr uu86, vr uu100, .unset, .unset, .unset] [])
      obtain ⟨T1327, h1327, X1327, e1327, E1327, A1327, D1327, -, st1327⟩ := newO X1324 hx hZ1324 hown1324 (tw40 hw) (tw41 hw) (tw42 hw) rfl (g := (mkF m 26 #[vi p1, vi p2, vi p3, .val cv2, .val cv2, vr uu86, vr uu100, .unset, .unset, .unset] [])) rfl (hb hby at_26) (by decide) (by decide)
      obtain ⟨b1327, g1327⟩ : ∃ z, z = T1324.heap.size := ⟨_, rfl⟩
      rw [← g1327] at A1327 D1327 st1327
      have f1328 : Fld Z h1327 b1327 xs3 "type" xs21 .null := D1327 (Or.inr (tw53 hw)) (ty := (.object xs25)) (by decide)
      have f1329 : Fld Z h1327 b1327 xs3 "id" xs21 .null := D1327 (Or.inr (tw55 hw)) (ty := (.object xs25)) (by decide)
      refine GoH.step (fun _ k => st1327 _ (XS.dup X1327.here hx rfl (hb hby at_29) rfl rfl (XS.aload X1327.here hx rfl (hb hby at_30) rfl rfl (XS.aload X1327.here hx rfl (hb hby at_32) rfl rfl k)))) ?_
      show GoH p e below s _ _ _ T1327 (mkF m 34 #[vi p1, vi p2, vi p3, .val cv2, .val cv2, vr uu86, vr uu100, .unset, .unset, .unset] [(.ref uu100), (.ref uu86), (.ref b1327), (.ref b1327)])
      have f1330 := (Nat.le_trans (Nat.le_trans f1323 K1324.1) E1327.1)
      have f1331 := (Nat.le_trans f1323 K1324.1)
      have g1332 := Nat.le_trans f1331 (Nat.le_of_eq g1327.symm)
      obtain ⟨_, _, ⟨T1333, L1333, k1333, n1333⟩, -, X1333, ⟨Lc1333, hQ1333, l1333, y1333, z1333⟩, st1333⟩ := X1327.specialBack hx (y := xm31) rfl hown1324 (mvT hZ1324 (tw43 hw)) (mvT hZ1324 (tw44 hw)) (mvT hZ1324 (tw45 hw)) (by decide) (backOf (W := 1) (rm_ObjectRef_new_0 l Z a0 hw [] b1327 uu86 uu100 h1327 n0 f1330 A1327 f1328 g1332 f1329) hZ1324 (tw45 hw) (tw42 hw) (by decide) (by decide)) (g := (mkF m 34 #[vi p1, vi p2, vi p3, .val cv2, .val cv2, vr uu86, vr uu100, .unset, .unset, .unset] [(.ref uu100), (.ref uu86), (.ref b1327), (.ref b1327)])) rfl (by rw [hml]; rfl) (Steps.refl _) (a := b1327) (argsL := [(.ref uu86), (.ref uu100)]) (rest := [(.ref b1327)]) (lenOf pd_5 rfl) rfl (Nat.le_of_eq rfl) (hb hby at_34) (fun _ _ => ⟨rfl, e1327, (by decide : 7 + 0 ≤ _), (by decide : 18 + 0 ≤ _)⟩)
      dsimp only [Pt.U, Pt.locs, Pt.cells, Pt.slots] at X1333 l1333 y1333 z1333 st1333 hQ1333
      subst l1333 y1333 z1333
      obtain ⟨rfl, N1333q, K1333, P1333_0, P1333_1⟩ := hQ1333
      have N1334 := Fr.app N1325 N1333q
      refine GoH.step (fun _ k => st1333.trans (XS.astore X1333.here hx rfl (hb hby at_37) rfl rfl (l' := #[vi p1, vi p2, vi p3, .val cv2, .val cv2, vr uu86, vr uu100, vr b1327, .unset, .unset]) rfl (XS.aload X1333.here hx rfl (hb hby at_39) rfl rfl k))) ?_
      show GoH p e below s _ _ _ T1333 (mkF m 41 #[vi p1, vi p2, vi p3, .val cv2, .val cv2, vr uu86, vr uu100, vr b1327, .unset, .unset] [(.ref b1327)])
      have f1335 := (((f1322.keep K1324 all0).ext E1327).keep K1333 (allS g1332 all0))
      have f1336 := (Nat.le_trans f1330 K1333.1)
      have f1337 := (((P1212_1.keep K1324).ext E1327).keep K1333)
      have f1338 := (P1212_1.keep K1324)
      have ne1339 : uu86 ≠ b1327 := Nat.ne_of_lt (Nat.lt_of_lt_of_le f1338.lt (Nat.le_of_eq g1327.symm))
      have f1340 := (((P1212_3.keep K1324 nin0).ext E1327).keep K1333 (ninS ne1339 nin0))
      have f1341 := (P1212_5.keep K1324 nin0)
      have ne1342 : uu87 ≠ b1327 := Nat.ne_of_lt (Nat.lt_of_lt_of_le f1341.lt (Nat.le_of_eq g1327.symm))
      have f1343 := (((P1212_5.keep K1324 nin0).ext E1327).keep K1333 (ninS ne1342 nin0))
      have f1344 := (((P1212_2.keep K1324 nin0).ext E1327).keep K1333 (ninS ne1339 nin0))
      have f1345 := ((P1324_1.ext E1327).keep K1333)
      have ne1346 : uu100 ≠ b1327 := Nat.ne_of_lt (Nat.lt_of_lt_of_le P1324_1.lt (Nat.le_of_eq g1327.symm))
      have f1347 := ((P1324_3.ext E1327).keep K1333 (ninS ne1346 nin0))
      have ne1348 : uu101 ≠ b1327 := Nat.ne_of_lt (Nat.lt_of_lt_of_le P1324_5.lt (Nat.le_of_eq g1327.symm))
      have f1349 := ((P1324_5.ext E1327).keep K1333 (ninS ne1348 nin0))
      have f1350 := ((P1324_2.ext E1327).keep K1333 (ninS ne1346 nin0))
      have f1352 := (own_chK (own_chE f1326 E1327) K1333 (sfS (Safe.exa hZ1324.alike A1327 (by decide) (by decide)) sf0))
      have f1353 := (A1327.keep K1333)
      obtain ⟨cq1351, kq1351, q1351a, q1351b, q1351c⟩ := isOf hZ1324 rfl f1353
      obtain ⟨_, _, ⟨T1351, L1351, k1351, n1351⟩, -, X1351s, hs1351, hg1351, ⟨Lc1351, hQ1351, l1351, y1351, z1351, ch1351⟩, st1351⟩ := X1333.virtualBackS hx (y := xm21) (z := xm21) hown1324 (mvT hZ1324 (tw56 hw)) (mvT hZ1324 (tw57 hw)) (notFace_of_selects (args := #[]) (mvT hZ1324 (tw59 hw))) (mvT hZ1324 (tw59 hw)) (mvT hZ1324 (tw58 hw)) (by decide) (backOfSH (W := 0) (rm_ObjectRef_toString_0 l Z a0 hw [] b1327 cs uu86 uu87 uu88 ci2 ([(.int (nar .byte ((nar .char (own_ch p1 ci0)).toInt8.toInt32))), (.int (nar .byte ((nar .char (own_ch p1 ci1)).toInt8.toInt32)))]) uu100 uu101 uu102 ci2 ([(.int (nar .byte ((nar .char (own_ch p2 ci0)).toInt8.toInt32))), (.int (nar .byte ((nar .char (own_ch p2 ci1)).toInt8.toInt32)))]) T1333.heap n0 f1336 Z_S_COMPACT_STRINGS f1335 hcs P1333_0 f1337 f1340 f1343 f1344 (by decide) (by decide) (Nat.le_of_ble_eq_true rfl) (Nat.le_of_ble_eq_true rfl) (Nat.le_of_ble_eq_true rfl) (by decide) (by decide) (Nat.le_of_ble_eq_true rfl) (Nat.le_of_ble_eq_true rfl) P1333_1 f1345 f1347 f1349 f1350 (by decide) (by decide) (by decide) (Nat.le_of_ble_eq_true rfl) (Nat.le_of_ble_eq_true rfl) (Nat.le_of_ble_eq_true rfl) (by decide) (by decide) (by decide) (Nat.le_of_ble_eq_true rfl) (by decide) (Nat.le_of_ble_eq_true rfl) (Nat.le_of_ble_eq_true rfl) (Nat.le_of_ble_eq_true rfl)) hZ1324 (tw60 hw) (tw42 hw) (by decide) (by decide) (own_EW hw) f1352.1) q1351a q1351c (g := (mkF m 41 #[vi p1, vi p2, vi p3, .val cv2, .val cv2, vr uu86, vr uu100, vr b1327, .unset, .unset] [(.ref b1327)])) rfl (by rw [hml]; rfl) (Steps.refl _) (argsL := []) (rest := []) (lenOf pd_21 rfl) rfl (Nat.le_of_eq rfl) (hb hby at_41) (fun _ _ => ⟨rfl, rfl, (by decide : 7 + 6 ≤ _), (by decide : 18 + 48 ≤ _)⟩)
      dsimp only [Pt.U, Pt.locs, Pt.cells, Pt.slots] at X1351s hs1351 hg1351 l1351 y1351 z1351 st1351 hQ1351 ch1351
      subst l1351 y1351 z1351
      have f1354 := (Nat.le_trans (Nat.le_trans (Nat.le_refl _) E1327.1) K1333.1)
      obtain ⟨X1351, hS1351, hZ1351, hown1351⟩ := rebS hS1324 (by exact f1354) X1351s hs1351 hg1351 hZ1324 hown1324
      obtain ⟨uu103, uu104, uu105, rfl, N1351q, K1351, P1351_0, P1351_1, P1351_2, P1351_3, P1351_4, P1351_5, P1351_6⟩ := hQ1351
      have N1355 := Fr.app N1334 N1351q
      have f1356 := f1352.trans ch1351
      refine GoH.step (fun _ k => st1351.trans k) ?_
      show GoH p e below s _ _ _ T1351 (mkF m 44 #[vi p1, vi p2, vi p3, .val cv2, .val cv2, vr uu86, vr uu100, vr b1327, .unset, .unset] [(.ref uu103)])
      have f1357 : Arv Z T1351.heap uu104 uu105 .byte ci5 [(.int (nar .byte ((nar .char (own_ch p1 ci0)).toInt8.toInt32))), (.int (nar .byte ((nar .char (own_ch p1 ci1)).toInt8.toInt32))), cv58, (.int (nar .byte ((nar .char (own_ch p2 ci0)).toInt8.toInt32))), (.int (nar .byte ((nar .char (own_ch p2 ci1)).toInt8.toInt32)))] cv0 := P1351_5
      refine GoH.step (fun _ k => XS.astore X1351.here hx rfl (hb hby at_44) rfl rfl (l' := #[vi p1, vi p2, vi p3, .val cv2, .val cv2, vr uu86, vr uu100, vr b1327, vr uu103, .unset]) rfl (XS.iloadN X1351.here hx rfl (hb hby at_46) rfl (XS.iconst X1351.here hx rfl (hb hby at_47) (XS.iadd X1351.here hx rfl (hb hby at_48) rfl (XS.iload X1351.here hx rfl (hb hby at_49) rfl (XS.iadd X1351.here hx rfl (hb hby at_51) rfl (XS.istore X1351.here hx rfl (hb hby at_52) rfl (l' := #[vi p1, vi p2, vi p3, .val cv2, .val cv2, vr uu86, vr uu100, vr b1327, vr uu103, .val cv5]) rfl (XS.aload X1351.here hx rfl (hb hby at_54) rfl rfl k)))))))) ?_
      show GoH p e below s _ _ _ T1351 (mkF m 56 #[vi p1, vi p2, vi p3, .val cv2, .val cv2, vr uu86, vr uu100, vr b1327, vr uu103, .val cv5] [(.ref uu103)])
      have f1358 := (f1335.keep K1351 all0)
      have f1359 := (Nat.le_trans f1336 K1351.1)
      obtain ⟨cq1360, kq1360, q1360a, q1360b, q1360c⟩ := isOf hZ1351 rfl P1351_1
      obtain ⟨_, _, ⟨T1360, L1360, k1360, n1360⟩, -, X1360, ⟨Lc1360, hQ1360, l1360, y1360, z1360⟩, st1360⟩ := X1351.virtualBack hx (y := xm19) (z := xm19) hown1351 (mvT hZ1351 (tw172 hw)) (mvT hZ1351 (tw90 hw)) (notFace_of_selects (args := #[]) (mvT hZ1351 (tw92 hw))) (mvT hZ1351 (tw92 hw)) (mvT hZ1351 (tw91 hw)) (by decide) (backOf (W := 0) (rm_String_length_0 l Z a0 hw [] uu103 uu104 uu105 ci5 ([(.int (nar .byte ((nar .char (own_ch p1 ci0)).toInt8.toInt32))), (.int (nar .byte ((nar .char (own_ch p1 ci1)).toInt8.toInt32))), cv58, (.int (nar .byte ((nar .char (own_ch p2 ci0)).toInt8.toInt32))), (.int (nar .byte ((nar .char (own_ch p2 ci1)).toInt8.toInt32)))]) cs T1351.heap n0 f1359 P1351_3 f1357 P1351_1 Z_S_COMPACT_STRINGS f1358 hcs P1351_2) hZ1351 (tw93 hw) (tw6 hw) (by decide) (by decide)) q1360a q1360c (g := (mkF m 56 #[vi p1, vi p2, vi p3, .val cv2, .val cv2, vr uu86, vr uu100, vr b1327, vr uu103, .val cv5] [(.ref uu103)])) rfl (by rw [hml]; rfl) (Steps.refl _) (argsL := []) (rest := []) (lenOf pd_8 rfl) rfl (Nat.le_of_eq rfl) (hb hby at_56) (fun _ _ => ⟨rfl, rfl, (by decide : 13 + 0 ≤ _), (by decide : 66 + 0 ≤ _)⟩)
      dsimp only [Pt.U, Pt.locs, Pt.cells, Pt.slots] at X1360 l1360 y1360 z1360 st1360 hQ1360
      subst l1360 y1360 z1360
      obtain ⟨rfl, N1360q, eq1360⟩ := hQ1360
      have N1361 := Fr.app N1355 N1360q
      refine GoH.step (fun _ k => st1360.trans (XS.iload X1360.here hx rfl (hb hby at_59) rfl (XS.icmpYes X1360.here hx rfl (pc0 := 61) (pc' := 66) rfl (hb hby at_61) rfl (teq (by decide)).1 (by decide) (by decide) (XS.aload X1360.here hx rfl (hb hby at_66) rfl rfl (XS.iconst X1360.here hx rfl (hb hby at_68) (XS.iload X1360.here hx rfl (hb hby at_69) rfl (XS.iloadN X1360.here hx rfl (hb hby at_71) rfl (XS.iloadN X1360.here hx rfl (hb hby at_72) rfl (XS.iloadN X1360.here hx rfl (hb hby at_73) rfl k))))))))) ?_
      show GoH p e below s _ _ _ T1360 (mkF m 74 #[vi p1, vi p2, vi p3, .val cv2, .val cv2, vr uu86, vr uu100, vr b1327, vr uu103, .val cv5] [(.int p2), (.int p1), cv2, cv5, cv0, (.ref uu103)])
      obtain ⟨_, _, ⟨T1362, L1362, k1362, n1362⟩, -, X1362, ⟨Lc1362, hQ1362, l1362, y1362, z1362⟩, st1362⟩ := Jvm.LawKit.callS X1360 hx (y := xm36) hown1351 (mvT hZ1351 (tw173 hw)) (mvT hZ1351 (tw174 hw)) (mvT hZ1351 (tw2 hw)) (mvT hZ1351 (tw175 hw)) (by decide) (backOf (W := 0) (rm_ObjectRefToStringPinLaw_ok_3 l Z a0 hw [] uu103 ci0 ci5 ci2 p1 p2 uu104 uu105 ci5 ([(.int (nar .byte ((nar .char (own_ch p1 ci0)).toInt8.toInt32))), (.int (nar .byte ((nar .char (own_ch p1 ci1)).toInt8.toInt32))), cv58, (.int (nar .byte ((nar .char (own_ch p2 ci0)).toInt8.toInt32))), (.int (nar .byte ((nar .char (own_ch p2 ci1)).toInt8.toInt32)))]) (nar .byte ((nar .char (own_ch p1 ci0)).toInt8.toInt32)) cs fv T1351.heap n0 f1359 (by decide) (by decide) P1351_1 P1351_2 P1351_3 f1357 rfl Z_S_COMPACT_STRINGS Z_S_SIOOBE_FORMATTER f1358 hcs hfv (by decide) (by decide) (own_rt p1 ci0)) hZ1351 (tw175 hw) (tw2 hw) (by decide) (by decide)) (g := (mkF m 74 #[vi p1, vi p2, vi p3, .val cv2, .val cv2, vr uu86, vr uu100, vr b1327, vr uu103, .val cv5] [(.int p2), (.int p1), cv2, cv5, cv0, (.ref uu103)])) rfl (by rw [hml]; rfl) (argsL := [(.ref uu103), cv0, cv5, cv2, (.int p1), (.int p2)]) (rest := []) (lenOf pd_24 rfl) rfl (Nat.le_of_eq rfl) (hb hby at_74) (fun _ _ => ⟨rfl, eq1360, (by decide : 13 + 0 ≤ _), (by decide : 66 + 0 ≤ _)⟩)
      dsimp only [Pt.U, Pt.locs, Pt.cells, Pt.slots] at X1362 l1362 y1362 z1362 st1362 hQ1362
      subst l1362 y1362 z1362
      obtain ⟨rfl, N1362q, eq1362⟩ := hQ1362
      have N1363 := Fr.app N1361 N1362q
      refine GoH.step (fun _ k => st1362 _ (XS.ifNo X1362.here hx rfl (hb hby at_77) rfl ((if0 _ _).trans (feq (by decide)).1) (XS.aload X1362.here hx rfl (hb hby at_80) rfl rfl (XS.iconst X1362.here hx rfl (hb hby at_82) (XS.iload X1362.here hx rfl (hb hby at_83) rfl (XS.iloadN X1362.here hx rfl (hb hby at_85) rfl (XS.iloadN X1362.here hx rfl (hb hby at_86) rfl (XS.iloadN X1362.here hx rfl (hb hby at_87) rfl k)))))))) ?_
      show GoH p e below s _ _ _ T1362 (mkF m 88 #[vi p1, vi p2, vi p3, .val cv2, .val cv2, vr uu86, vr uu100, vr b1327, vr uu103, .val cv5] [(.int p2), (.int p1), cv2, cv5, cv1, (.ref uu103)])
      obtain ⟨_, _, ⟨T1364, L1364, k1364, n1364⟩, -, X1364, ⟨Lc1364, hQ1364, l1364, y1364, z1364⟩, st1364⟩ := Jvm.LawKit.callS X1362 hx (y := xm36) hown1351 (mvT hZ1351 (tw173 hw)) (mvT hZ1351 (tw174 hw)) (mvT hZ1351 (tw2 hw)) (mvT hZ1351 (tw175 hw)) (by decide) (backOf (W := 0) (rm_ObjectRefToStringPinLaw_ok_3 l Z a0 hw [] uu103 ci1 ci5 ci2 p1 p2 uu104 uu105 ci5 ([(.int (nar .byte ((nar .char (own_ch p1 ci0)).toInt8.toInt32))), (.int (nar .byte ((nar .char (own_ch p1 ci1)).toInt8.toInt32))), cv58, (.int (nar .byte ((nar .char (own_ch p2 ci0)).toInt8.toInt32))), (.int (nar .byte ((nar .char (own_ch p2 ci1)).toInt8.toInt32)))]) (nar .byte ((nar .char (own_ch p1 ci1)).toInt8.toInt32)) cs fv T1351.heap n0 f1359 (by decide) (by decide) P1351_1 P1351_2 P1351_3 f1357 rfl Z_S_COMPACT_STRINGS Z_S_SIOOBE_FORMATTER f1358 hcs hfv (by decide) (by decide) (own_rt p1 ci1)) hZ1351 (tw175 hw) (tw2 hw) (by decide) (by decide)) (g := (mkF m 88 #[vi p1, vi p2, vi p3, .val cv2, .val cv2, vr uu86, vr uu100, vr b1327, vr uu103, .val cv5] [(.int p2), (.int p1), cv2, cv5, cv1, (.ref uu103)])) rfl (by rw [hml]; rfl) (argsL := [(.ref uu103), cv1, cv5, cv2, (.int p1), (.int p2)]) (rest := []) (lenOf pd_24 rfl) rfl (Nat.le_of_eq rfl) (hb hby at_88) (fun _ _ => ⟨rfl, eq1362, (by decide : 13 + 0 ≤ _), (by decide : 66 + 0 ≤ _)⟩)
      dsimp only [Pt.U, Pt.locs, Pt.cells, Pt.slots] at X1364 l1364 y1364 z1364 st1364 hQ1364
      subst l1364 y1364 z1364
      obtain ⟨rfl, N1364q, eq1364⟩ := hQ1364
      have N1365 := Fr.app N1363 N1364q
      refine GoH.step (fun _ k => st1364 _ (XS.ifNo X1364.here hx rfl (hb hby at_91) rfl ((if0 _ _).trans (feq (by decide)).1) (XS.aload X1364.here hx rfl (hb hby at_94) rfl rfl (XS.iconst X1364.here hx rfl (hb hby at_96) (XS.iload X1364.here hx rfl (hb hby at_97) rfl (XS.iloadN X1364.here hx rfl (hb hby at_99) rfl (XS.iloadN X1364.here hx rfl (hb hby at_100) rfl (XS.iloadN X1364.here hx rfl (hb hby at_101) rfl k)))))))) ?_
      show GoH p e below s _ _ _ T1364 (mkF m 102 #[vi p1, vi p2, vi p3, .val cv2, .val cv2, vr uu86, vr uu100, vr b1327, vr uu103, .val cv5] [(.int p2), (.int p1), cv2, cv5, cv2, (.ref uu103)])
      obtain ⟨_, _, ⟨T1366, L1366, k1366, n1366⟩, -, X1366, ⟨Lc1366, hQ1366, l1366, y1366, z1366⟩, st1366⟩ := Jvm.LawKit.callS X1364 hx (y := xm36) hown1351 (mvT hZ1351 (tw173 hw)) (mvT hZ1351 (tw174 hw)) (mvT hZ1351 (tw2 hw)) (mvT hZ1351 (tw175 hw)) (by decide) (backOf (W := 0) (rm_ObjectRefToStringPinLaw_ok_0 l Z a0 hw [] uu103 ci2 ci5 ci2 p1 p2 cs uu104 uu105 ci5 ([(.int (nar .byte ((nar .char (own_ch p1 ci0)).toInt8.toInt32))), (.int (nar .byte ((nar .char (own_ch p1 ci1)).toInt8.toInt32))), cv58, (.int (nar .byte ((nar .char (own_ch p2 ci0)).toInt8.toInt32))), (.int (nar .byte ((nar .char (own_ch p2 ci1)).toInt8.toInt32)))]) fv ci58 T1351.heap n0 f1359 (by decide) (by decide) rfl P1351_1 Z_S_COMPACT_STRINGS f1358 hcs P1351_2 P1351_3 f1357 Z_S_SIOOBE_FORMATTER hfv rfl (by decide) (by decide) (by decide)) hZ1351 (tw175 hw) (tw2 hw) (by decide) (by decide)) (g := (mkF m 102 #[vi p1, vi p2, vi p3, .val cv2, .val cv2, vr uu86, vr uu100, vr b1327, vr uu103, .val cv5] [(.int p2), (.int p1), cv2, cv5, cv2, (.ref uu103)])) rfl (by rw [hml]; rfl) (argsL := [(.ref uu103), cv2, cv5, cv2, (.int p1), (.int p2)]) (rest := []) (lenOf pd_24 rfl) rfl (Nat.le_of_eq rfl) (hb hby at_102) (fun _ _ => ⟨rfl, eq1364, (by decide : 13 + 0 ≤ _), (by decide : 66 + 0 ≤ _)⟩)
      dsimp only [Pt.U, Pt.locs, Pt.cells, Pt.slots] at X1366 l1366 y1366 z1366 st1366 hQ1366
      subst l1366 y1366 z1366
      obtain ⟨rfl, N1366q, eq1366⟩ := hQ1366
      have N1367 := Fr.app N1365 N1366q
      refine GoH.step (fun _ k => st1366 _ (XS.ifNo X1366.here hx rfl (hb hby at_105) rfl ((if0 _ _).trans (feq (by decide)).1) (XS.aload X1366.here hx rfl (hb hby at_108) rfl rfl (XS.iconst X1366.here hx rfl (hb hby at_110) (XS.iload X1366.here hx rfl (hb hby at_111) rfl (XS.iloadN X1366.here hx rfl (hb hby at_113) rfl (XS.iloadN X1366.here hx rfl (hb hby at_114) rfl (XS.iloadN X1366.here hx rfl (hb hby at_115) rfl k)))))))) ?_
      show GoH p e below s _ _ _ T1366 (mkF m 116 #[vi p1, vi p2, vi p3, .val cv2, .val cv2, vr uu86, vr uu100, vr b1327, vr uu103, .val cv5] [(.int p2), (.int p1), cv2, cv5, cv3, (.ref uu103)])
      obtain ⟨_, _, ⟨T1368, L1368, k1368, n1368⟩, -, X1368, ⟨Lc1368, hQ1368, l1368, y1368, z1368⟩, st1368⟩ := Jvm.LawKit.callS X1366 hx (y := xm36) hown1351 (mvT hZ1351 (tw173 hw)) (mvT hZ1351 (tw174 hw)) (mvT hZ1351 (tw2 hw)) (mvT hZ1351 (tw175 hw)) (by decide) (backOf (W := 0) (rm_ObjectRefToStringPinLaw_ok_2 l Z a0 hw [] uu103 ci3 ci5 ci2 p1 p2 uu104 uu105 ci5 ([(.int (nar .byte ((nar .char (own_ch p1 ci0)).toInt8.toInt32))), (.int (nar .byte ((nar .char (own_ch p1 ci1)).toInt8.toInt32))), cv58, (.int (nar .byte ((nar .char (own_ch p2 ci0)).toInt8.toInt32))), (.int (nar .byte ((nar .char (own_ch p2 ci1)).toInt8.toInt32)))]) (nar .byte ((nar .char (own_ch p2 ci0)).toInt8.toInt32)) cs fv T1351.heap n0 f1359 (by decide) (by decide) (by decide) P1351_1 P1351_2 P1351_3 f1357 rfl Z_S_COMPACT_STRINGS Z_S_SIOOBE_FORMATTER f1358 hcs hfv (by decide) (by decide) (own_rt p2 ci0)) hZ1351 (tw175 hw) (tw2 hw) (by decide) (by decide)) (g := (mkF m 116 #[vi p1, vi p2, vi p3, .val cv2, .val cv2, vr uu86, vr uu100, vr b1327, vr uu103, .val cv5] [(.int p2), (.int p1), cv2, cv5, cv3, (.ref uu103)])) rfl (by rw [hml]; rfl) (argsL := [(.ref uu103), cv3, cv5, cv2, (.int p1), (.int p2)]) (rest := []) (lenOf pd_24 rfl) rfl (Nat.le_of_eq rfl) (hb hby at_116) (fun _ _ => ⟨rfl, eq1366, (by decide : 13 + 0 ≤ _), (by decide : 66 + 0 ≤ _)⟩)
      dsimp only [Pt.U, Pt.locs, Pt.cells, Pt.slots] at X1368 l1368 y1368 z1368 st1368 hQ1368
      subst l1368 y1368 z1368
      obtain ⟨rfl, N1368q, eq1368⟩ := hQ1368
      have N1369 := Fr.app N1367 N1368q
      refine GoH.step (fun _ k => st1368 _ (XS.ifNo X1368.here hx rfl (hb hby at_119) rfl ((if0 _ _).trans (feq (by decide)).1) (XS.aload X1368.here hx rfl (hb hby at_122) rfl rfl (XS.iconst X1368.here hx rfl (hb hby at_124) (XS.iload X1368.here hx rfl (hb hby at_125) rfl (XS.iloadN X1368.here hx rfl (hb hby at_127) rfl (XS.iloadN X1368.here hx rfl (hb hby at_128) rfl (XS.iloadN X1368.here hx rfl (hb hby at_129) rfl k)))))))) ?_
      show GoH p e below s _ _ _ T1368 (mkF m 130 #[vi p1, vi p2, vi p3, .val cv2, .val cv2, vr uu86, vr uu100, vr b1327, vr uu103, .val cv5] [(.int p2), (.int p1), cv2, cv5, cv4, (.ref uu103)])
      obtain ⟨_, _, ⟨T1370, L1370, k1370, n1370⟩, -, X1370, ⟨Lc1370, hQ1370, l1370, y1370, z1370⟩, st1370⟩ := Jvm.LawKit.callS X1368 hx (y := xm36) hown1351 (mvT hZ1351 (tw173 hw)) (mvT hZ1351 (tw174 hw)) (mvT hZ1351 (tw2 hw)) (mvT hZ1351 (tw175 hw)) (by decide) (backOf (W := 0) (rm_ObjectRefToStringPinLaw_ok_2 l Z a0 hw [] uu103 ci4 ci5 ci2 p1 p2 uu104 uu105 ci5 ([(.int (nar .byte ((nar .char (own_ch p1 ci0)).toInt8.toInt32))), (.int (nar .byte ((nar .char (own_ch p1 ci1)).toInt8.toInt32))), cv58, (.int (nar .byte ((nar .char (own_ch p2 ci0)).toInt8.toInt32))), (.int (nar .byte ((nar .char (own_ch p2 ci1)).toInt8.toInt32)))]) (nar .byte ((nar .char (own_ch p2 ci1)).toInt8.toInt32)) cs fv T1351.heap n0 f1359 (by decide) (by decide) (by decide) P1351_1 P1351_2 P1351_3 f1357 rfl Z_S_COMPACT_STRINGS Z_S_SIOOBE_FORMATTER f1358 hcs hfv (by decide) (by decide) (own_rt p2 ci1)) hZ1351 (tw175 hw) (tw2 hw) (by decide) (by decide)) (g := (mkF m 130 #[vi p1, vi p2, vi p3, .val cv2, .val cv2, vr uu86, vr uu100, vr b1327, vr uu103, .val cv5] [(.int p2), (.int p1), cv2, cv5, cv4, (.ref uu103)])) rfl (by rw [hml]; rfl) (argsL := [(.ref uu103), cv4, cv5, cv2, (.int p1), (.int p2)]) (rest := []) (lenOf pd_24 rfl) rfl (Nat.le_of_eq rfl) (hb hby at_130) (fun _ _ => ⟨rfl, eq1368, (by decide : 13 + 0 ≤ _), (by decide : 66 + 0 ≤ _)⟩)
      dsimp only [Pt.U, Pt.locs, Pt.cells, Pt.slots] at X1370 l1370 y1370 z1370 st1370 hQ1370
      subst l1370 y1370 z1370
      obtain ⟨rfl, N1370q, eq1370⟩ := hQ1370
      have N1371 := Fr.app N1369 N1370q
      refine GoH.step (fun _ k => st1370 _ (XS.ifNo X1370.here hx rfl (hb hby at_133) rfl ((if0 _ _).trans (feq (by decide)).1) (XS.aload X1370.here hx rfl (hb hby at_136) rfl rfl (XS.iconst X1370.here hx rfl (hb hby at_138) (XS.iload X1370.here hx rfl (hb hby at_139) rfl (XS.iloadN X1370.here hx rfl (hb hby at_141) rfl (XS.iloadN X1370.here hx rfl (hb hby at_142) rfl (XS.iloadN X1370.here hx rfl (hb hby at_143) rfl k)))))))) ?_
      show GoH p e below s _ _ _ T1370 (mkF m 144 #[vi p1, vi p2, vi p3, .val cv2, .val cv2, vr uu86, vr uu100, vr b1327, vr uu103, .val cv5] [(.int p2), (.int p1), cv2, cv5, cv5, (.ref uu103)])
      obtain ⟨_, _, ⟨T1372, L1372, k1372, n1372⟩, -, X1372, ⟨Lc1372, hQ1372, l1372, y1372, z1372⟩, st1372⟩ := Jvm.LawKit.callS X1370 hx (y := xm36) hown1351 (mvT hZ1351 (tw173 hw)) (mvT hZ1351 (tw174 hw)) (mvT hZ1351 (tw2 hw)) (mvT hZ1351 (tw175 hw)) (by decide) (backOf (W := 0) (rm_ObjectRefToStringPinLaw_ok_1 l Z a0 hw [] uu103 ci5 ci5 ci2 p1 p2 T1351.heap n0 f1359 (by decide)) hZ1351 (tw175 hw) (tw2 hw) (by decide) (by decide)) (g := (mkF m 144 #[vi p1, vi p2, vi p3, .val cv2, .val cv2, vr uu86, vr uu100, vr b1327, vr uu103, .val cv5] [(.int p2), (.int p1), cv2, cv5, cv5, (.ref uu103)])) rfl (by rw [hml]; rfl) (argsL := [(.ref uu103), cv5, cv5, cv2, (.int p1), (.int p2)]) (rest := []) (lenOf pd_24 rfl) rfl (Nat.le_of_eq rfl) (hb hby at_144) (fun _ _ => ⟨rfl, eq1370, (by decide : 13 + 0 ≤ _), (by decide : 66 + 0 ≤ _)⟩)
      dsimp only [Pt.U, Pt.locs, Pt.cells, Pt.slots] at X1372 l1372 y1372 z1372 st1372 hQ1372
      subst l1372 y1372 z1372
      obtain ⟨rfl, N1372q, eq1372⟩ := hQ1372
      have N1373 := Fr.app N1371 N1372q
      refine GoH.step (fun _ k => st1372 _ (XS.ifNo X1372.here hx rfl (hb hby at_147) rfl ((if0 _ _).trans (feq (by decide)).1) (XS.aload X1372.here hx rfl (hb hby at_150) rfl rfl (XS.bipush X1372.here hx rfl (hb hby at_152) (XS.iload X1372.here hx rfl (hb hby at_154) rfl (XS.iloadN X1372.here hx rfl (hb hby at_156) rfl (XS.iloadN X1372.here hx rfl (hb hby at_157) rfl (XS.iloadN X1372.here hx rfl (hb hby at_158) rfl k)))))))) ?_
      show GoH p e below s _ _ _ T1372 (mkF m 159 #[vi p1, vi p2, vi p3, .val cv2, .val cv2, vr uu86, vr uu100, vr b1327, vr uu103, .val cv5] [(.int p2), (.int p1), cv2, cv5, cv6, (.ref uu103)])
      obtain ⟨_, _, ⟨T1374, L1374, k1374, n1374⟩, -, X1374, ⟨Lc1374, hQ1374, l1374, y1374, z1374⟩, st1374⟩ := Jvm.LawKit.callS X1372 hx (y := xm36) hown1351 (mvT hZ1351 (tw173 hw)) (mvT hZ1351 (tw174 hw)) (mvT hZ1351 (tw2 hw)) (mvT hZ1351 (tw175 hw)) (by decide) (backOf (W := 0) (rm_ObjectRefToStringPinLaw_ok_1 l Z a0 hw [] uu103 ci6 ci5 ci2 p1 p2 T1351.heap n0 f1359 (by decide)) hZ1351 (tw175 hw) (tw2 hw) (by decide) (by decide)) (g := (mkF m 159 #[vi p1, vi p2, vi p3, .val cv2, .val cv2, vr uu86, vr uu100, vr b1327, vr uu103, .val cv5] [(.int p2), (.int p1), cv2, cv5, cv6, (.ref uu103)])) rfl (by rw [hml]; rfl) (argsL := [(.ref uu103), cv6, cv5, cv2, (.int p1), (.int p2)]) (rest := []) (lenOf pd_24 rfl) rfl (Nat.le_of_eq rfl) (hb hby at_159) (fun _ _ => ⟨rfl, eq1372, (by decide : 13 + 0 ≤ _), (by decide : 66 + 0 ≤ _)⟩)
      dsimp only [Pt.U, Pt.locs, Pt.cells, Pt.slots] at X1374 l1374 y1374 z1374 st1374 hQ1374
      subst l1374 y1374 z1374
      obtain ⟨rfl, N1374q, eq1374⟩ := hQ1374
      have N1375 := Fr.app N1373 N1374q
      refine GoH.step (fun _ k => st1374 _ (XS.ifNo X1374.here hx rfl (hb hby at_162) rfl ((if0 _ _).trans (feq (by decide)).1) (XS.iconst X1374.here hx rfl (hb hby at_165) (XS.goto X1374.here hx rfl (pc0 := 166) (pc' := 170) rfl (hb hby at_166) (by decide) (by decide) k)))) ?_
      show GoH p e below s _ _ _ T1374 (mkF m 170 #[vi p1, vi p2, vi p3, .val cv2, .val cv2, vr uu86, vr uu100, vr b1327, vr uu103, .val cv5] [cv1])
      exact GoH.retN X1374 hS1351 hx hlk (t := .boolean) Bd.returns (by simp) (hb hby at_170) eq1374 (Nat.le_refl _) ⟨rfl, N1375⟩ (f1356.trans (CHv.at X1374 hZ1351 (own_EW hw) f1356.1)) (by decide) (by decide)
    · show GoH p e below s _ _ _ T1212 (mkF m 21 #[vi p1, vi p2, vi p3, .val cv2, .val cv3, vr uu86, .unset, .unset, .unset, .unset] [cv3, (.int p2)])
      have f1376 := (O0.keep K1212 all0)
      have f1377 := (Nat.le_trans Z0 K1212.1)
      obtain ⟨_, _, ⟨T1378, L1378, k1378, n1378⟩, -, X1378s, hs1378, hg1378, ⟨Lc1378, hQ1378, l1378, y1378, z1378, ch1378⟩, st1378⟩ := callSS X1212 hx (y := xm33) hown1212 (mvT hZ1212 (tw0 hw)) (mvT hZ1212 (tw1 hw)) (mvT hZ1212 (tw2 hw)) (mvT hZ1212 (tw3 hw)) (by decide) (backOfSH (W := 0) (rm_ObjectRefToStringPinLaw_make_3 l Z a0 hw [] p2 cs T1212.heap n0 f1377 Z_S_COMPACT_STRINGS f1376 hcs (own_c2 p2 ci0) (own_c2 p2 ci1) (own_c2 p2 ci2)) hZ1212 (tw3 hw) (tw2 hw) (by decide) (by decide) (own_EW hw) f1214.1) (g := (mkF m 21 #[vi p1, vi p2, vi p3, .val cv2, .val cv3, vr uu86, .unset, .unset, .unset, .unset] [cv3, (.int p2)])) rfl (by rw [hml]; rfl) (argsL := [(.int p2), cv3]) (rest := []) (lenOf pd_3 rfl) rfl (Nat.le_of_eq rfl) (hb hby at_21) (fun _ _ => ⟨rfl, rfl, (by decide : 3 + 3 ≤ _), (by decide : 8 + 10 ≤ _)⟩)
      dsimp only [Pt.U, Pt.locs, Pt.cells, Pt.slots] at X1378s hs1378 hg1378 l1378 y1378 z1378 st1378 hQ1378 ch1378
      subst l1378 y1378 z1378
      obtain ⟨X1378, hS1378, hZ1378, hown1378⟩ := rebS hS1212 (by exact (Nat.le_refl _)) X1378s hs1378 hg1378 hZ1212 hown1212
      obtain ⟨uu106, uu107, uu108, rfl, N1378q, K1378, P1378_0, P1378_1, P1378_2, P1378_3, P1378_4, P1378_5, P1378_6⟩ := hQ1378
      have N1379 := Fr.app N1213 N1378q
      have f1380 := f1214.trans ch1378
      refine GoH.step (fun _ k => st1378.trans (XS.astore X1378.here hx rfl (hb hby at_24) rfl rfl (l' := #[vi p1, vi p2, vi p3, .val cv2, .val cv3, vr uu86, vr uu106, .unset, .unset, .unset]) rfl k)) ?_
      show GoH p e below s _ _ _ T1378 (mkF m 26 #[vi p1, vi p2, vi p3, .val cv2, .val cv3, vr uu86, vr uu106, .unset, .unset, .unset] [])
      obtain ⟨T1381, h1381, X1381, e1381, E1381, A1381, D1381, -, st1381⟩ := newO X1378 hx hZ1378 hown1378 (tw40 hw) (tw41 hw) (tw42 hw) rfl (g := (mkF m 26 #[vi p1, vi p2, vi p3, .val cv2, .val cv3, vr uu86, vr uu106, .unset, .unset, .unset] [])) rfl (hb hby at_26) (by decide) (by decide)
      obtain ⟨b1381, g1381⟩ : ∃ z, z = T1378.heap.size := ⟨_, rfl⟩
      rw [← g1381] at A1381 D1381 st1381
      have f1382 : Fld Z h1381 b1381 xs3 "type" xs21 .null := D1381 (Or.inr (tw53 hw)) (ty := (.object xs25)) (by decide)
      have f1383 : Fld Z h1381 b1381 xs3 "id" xs21 .null := D1381 (Or.inr (tw55 hw)) (ty := (.object xs25)) (by decide)
      refine GoH.step (fun _ k => st1381 _ (XS.dup X1381.here hx rfl (hb hby at_29) rfl rfl (XS.aload X1381.here hx rfl (hb hby at_30) rfl rfl (XS.aload X1381.here hx rfl (hb hby at_32) rfl rfl k)))) ?_
      show GoH p e below s _ _ _ T1381 (mkF m 34 #[vi p1, vi p2, vi p3, .val cv2, .val cv3, vr uu86, vr uu106, .unset, .unset, .unset] [(.ref uu106), (.ref uu86), (.ref b1381), (.ref b1381)])
      have f1384 := (Nat.le_trans (Nat.le_trans f1377 K1378.1) E1381.1)
      have f1385 := (Nat.le_trans f1377 K1378.1)
      have g1386 := Nat.le_trans f1385 (Nat.le_of_eq g1381.symm)
      obtain ⟨_, _, ⟨T1387, L1387, k1387, n1387⟩, -, X1387, ⟨Lc1387, hQ1387, l1387, y1387, z1387⟩, st1387⟩ := X1381.specialBack hx (y := xm31) rfl hown1378 (mvT hZ1378 (tw43 hw)) (mvT hZ1378 (tw44 hw)) (mvT hZ1378 (tw45 hw)) (by decide) (backOf (W := 1) (rm_ObjectRef_new_0 l Z a0 hw [] b1381 uu86 uu106 h1381 n0 f1384 A1381 f1382 g1386 f1383) hZ1378 (tw45 hw) (tw42 hw) (by decide) (by decide)) (g := (mkF m 34 #[vi p1, vi p2, vi p3, .val cv2, .val cv3, vr uu86, vr uu106, .unset, .unset, .unset] [(.ref uu106), (.ref uu86), (.ref b1381), (.ref b1381)])) rfl (by rw [hml]; rfl) (Steps.refl _) (a := b1381) (argsL := [(.ref uu86), (.ref uu106)]) (rest := [(.ref b1381)]) (lenOf pd_5 rfl) rfl (Nat.le_of_eq rfl) (hb hby at_34) (fun _ _ => ⟨rfl, e1381, (by decide : 7 + 0 ≤ _), (by decide : 20 + 0 ≤ _)⟩)
      dsimp only [Pt.U, Pt.locs, Pt.cells, Pt.slots] at X1387 l1387 y1387 z1387 st1387 hQ1387
      subst l1387 y1387 z1387
      obtain ⟨rfl, N1387q, K1387, P1387_0, P1387_1⟩ := hQ1387
      have N1388 := Fr.app N1379 N1387q
      refine GoH.step (fun _ k => st1387.trans (XS.astore X1387.here hx rfl (hb hby at_37) rfl rfl (l' := #[vi p1, vi p2, vi p3, .val cv2, .val cv3, vr uu86, vr uu106, vr b1381, .unset, .unset]) rfl (XS.aload X1387.here hx rfl (hb hby at_39) rfl rfl k))) ?_
      show GoH p e below s _ _ _ T1387 (mkF m 41 #[vi p1, vi p2, vi p3, .val cv2, .val cv3, vr uu86, vr uu106, vr b1381, .unset, .unset] [(.ref b1381)])
      have f1389 := (((f1376.keep K1378 all0).ext E1381).keep K1387 (allS g1386 all0))
      have f1390 := (Nat.le_trans f1384 K1387.1)
      have f1391 := (((P1212_1.keep K1378).ext E1381).keep K1387)
      have f1392 := (P1212_1.keep K1378)
      have ne1393 : uu86 ≠ b1381 := Nat.ne_of_lt (Nat.lt_of_lt_of_le f1392.lt (Nat.le_of_eq g1381.symm))
      have f1394 := (((P1212_3.keep K1378 nin0).ext E1381).keep K1387 (ninS ne1393 nin0))
      have f1395 := (P1212_5.keep K1378 nin0)
      have ne1396 : uu87 ≠ b1381 := Nat.ne_of_lt (Nat.lt_of_lt_of_le f1395.lt (Nat.le_of_eq g1381.symm))
      have f1397 := (((P1212_5.keep K1378 nin0).ext E1381).keep K1387 (ninS ne1396 nin0))
      have f1398 := (((P1212_2.keep K1378 nin0).ext E1381).keep K1387 (ninS ne1393 nin0))
      have f1399 := ((P1378_1.ext E1381).keep K1387)
      have ne1400 : uu106 ≠ b1381 := Nat.ne_of_lt (Nat.lt_of_lt_of_le P1378_1.lt (Nat.le_of_eq g1381.symm))
      have f1401 := ((P1378_3.ext E1381).keep K1387 (ninS ne1400 nin0))
      have ne1402 : uu107 ≠ b1381 := Nat.ne_of_lt (Nat.lt_of_lt_of_le P1378_5.lt (Nat.le_of_eq g1381.symm))
      have f1403 := ((P1378_5.ext E1381).keep K1387 (ninS ne1402 nin0))
      have f1404 := ((P1378_2.ext E1381).keep K1387 (ninS ne1400 nin0))
      have f1406 := (own_chK (own_chE f1380 E1381) K1387 (sfS (Safe.exa hZ1378.alike A1381 (by decide) (by decide)) sf0))
      have f1407 := (A1381.keep K1387)
      obtain ⟨cq1405, kq1405, q1405a, q1405b, q1405c⟩ := isOf hZ1378 rfl f1407
      obtain ⟨_, _, ⟨T1405, L1405, k1405, n1405⟩, -, X1405s, hs1405, hg1405, ⟨Lc1405, hQ1405, l1405, y1405, z1405, ch1405⟩, st1405⟩ := X1387.virtualBackS hx (y := xm21) (z := xm21) hown1378 (mvT hZ1378 (tw56 hw)) (mvT hZ1378 (tw57 hw)) (notFace_of_selects (args := #[]) (mvT hZ1378 (tw59 hw))) (mvT hZ1378 (tw59 hw)) (mvT hZ1378 (tw58 hw)) (by decide) (backOfSH (W := 0) (rm_ObjectRef_toString_0 l Z a0 hw [] b1381 cs uu86 uu87 uu88 ci2 ([(.int (nar .byte ((nar .char (own_ch p1 ci0)).toInt8.toInt32))), (.int (nar .byte ((nar .char (own_ch p1 ci1)).toInt8.toInt32)))]) uu106 uu107 uu108 ci3 ([(.int (nar .byte ((nar .char (own_ch p2 ci0)).toInt8.toInt32))), (.int (nar .byte ((nar .char (own_ch p2 ci1)).toInt8.toInt32))), (.int (nar .byte ((nar .char (own_ch p2 ci2)).toInt8.toInt32)))]) T1387.heap n0 f1390 Z_S_COMPACT_STRINGS f1389 hcs P1387_0 f1391 f1394 f1397 f1398 (by decide) (by decide) (Nat.le_of_ble_eq_true rfl) (Nat.le_of_ble_eq_true rfl) (Nat.le_of_ble_eq_true rfl) (by decide) (by decide) (Nat.le_of_ble_eq_true rfl) (Nat.le_of_ble_eq_true rfl) P1387_1 f1399 f1401 f1403 f1404 (by decide) (by decide) (by decide) (Nat.le_of_ble_eq_true rfl) (Nat.le_of_ble_eq_true rfl) (Nat.le_of_ble_eq_true rfl) (by decide) (by decide) (by decide) (Nat.le_of_ble_eq_true rfl) (by decide) (Nat.le_of_ble_eq_true rfl) (Nat.le_of_ble_eq_true rfl) (Nat.le_of_ble_eq_true rfl)) hZ1378 (tw60 hw) (tw42 hw) (by decide) (by decide) (own_EW hw) f1406.1) q1405a q1405c (g := (mkF m 41 #[vi p1, vi p2, vi p3, .val cv2, .val cv3, vr uu86, vr uu106, vr b1381, .unset, .unset] [(.ref b1381)])) rfl (by rw [hml]; rfl) (Steps.refl _) (argsL := []) (rest := []) (lenOf pd_21 rfl) rfl (Nat.le_of_eq rfl) (hb hby at_41) (fun _ _ => ⟨rfl, rfl, (by decide : 7 + 6 ≤ _), (by decide : 20 + 48 ≤ _)⟩)
      dsimp only [Pt.U, Pt.locs, Pt.cells, Pt.slots] at X1405s hs1405 hg1405 l1405 y1405 z1405 st1405 hQ1405 ch1405
      subst l1405 y1405 z1405
      have f1408 := (Nat.le_trans (Nat.le_trans (Nat.le_refl _) E1381.1) K1387.1)
      obtain ⟨X1405, hS1405, hZ1405, hown1405⟩ := rebS hS1378 (by exact f1408) X1405s hs1405 hg1405 hZ1378 hown1378
      obtain ⟨uu109, uu110, uu111, rfl, N1405q, K1405, P1405_0, P1405_1, P1405_2, P1405_3, P1405_4, P1405_5, P1405_6⟩ := hQ1405
      have N1409 := Fr.app N1388 N1405q
      have f1410 := f1406.trans ch1405
      refine GoH.step (fun _ k => st1405.trans k) ?_
      show GoH p e below s _ _ _ T1405 (mkF m 44 #[vi p1, vi p2, vi p3, .val cv2, .val cv3, vr uu86, vr uu106, vr b1381, .unset, .unset] [(.ref uu109)])
      have f1411 : Arv Z T1405.heap uu110 uu111 .byte ci6 [(.int (nar .byte ((nar .char (own_ch p1 ci0)).toInt8.toInt32))), (.int (nar .byte ((nar .char (own_ch p1 ci1)).toInt8.toInt32))), cv58, (.int (nar .byte ((nar .char (own_ch p2 ci0)).toInt8.toInt32))), (.int (nar .byte ((nar .char (own_ch p2 ci1)).toInt8.toInt32))), (.int (nar .byte ((nar .char (own_ch p2 ci2)).toInt8.toInt32)))] cv0 := P1405_5
      refine GoH.step (fun _ k => XS.astore X1405.here hx rfl (hb hby at_44) rfl rfl (l' := #[vi p1, vi p2, vi p3, .val cv2, .val cv3, vr uu86, vr uu106, vr b1381, vr uu109, .unset]) rfl (XS.iloadN X1405.here hx rfl (hb hby at_46) rfl (XS.iconst X1405.here hx rfl (hb hby at_47) (XS.iadd X1405.here hx rfl (hb hby at_48) rfl (XS.iload X1405.here hx rfl (hb hby at_49) rfl (XS.iadd X1405.here hx rfl (hb hby at_51) rfl (XS.istore X1405.here hx rfl (hb hby at_52) rfl (l' := #[vi p1, vi p2, vi p3, .val cv2, .val cv3, vr uu86, vr uu106, vr b1381, vr uu109, .val cv6]) rfl (XS.aload X1405.here hx rfl (hb hby at_54) rfl rfl k)))))))) ?_
      show GoH p e below s _ _ _ T1405 (mkF m 56 #[vi p1, vi p2, vi p3, .val cv2, .val cv3, vr uu86, vr uu106, vr b1381, vr uu109, .val cv6] [(.ref uu109)])
      have f1412 := (f1389.keep K1405 all0)
      have f1413 := (Nat.le_trans f1390 K1405.1)
      obtain ⟨cq1414, kq1414, q1414a, q1414b, q1414c⟩ := isOf hZ1405 rfl P1405_1
      obtain ⟨_, _, ⟨T1414, L1414, k1414, n1414⟩, -, X1414, ⟨Lc1414, hQ1414, l1414, y1414, z1414⟩, st1414⟩ := X1405.virtualBack hx (y := xm19) (z := xm19) hown1405 (mvT hZ1405 (tw172 hw)) (mvT hZ1405 (tw90 hw)) (notFace_of_selects (args := #[]) (mvT hZ1405 (tw92 hw))) (mvT hZ1405 (tw92 hw)) (mvT hZ1405 (tw91 hw)) (by decide) (backOf (W := 0) (rm_String_length_0 l Z a0 hw [] uu109 uu110 uu111 ci6 ([(.int (nar .byte ((nar .char (own_ch p1 ci0)).toInt8.toInt32))), (.int (nar .byte ((nar .char (own_ch p1 ci1)).toInt8.toInt32))), cv58, (.int (nar .byte ((nar .char (own_ch p2 ci0)).toInt8.toInt32))), (.int (nar .byte ((nar .char (own_ch p2 ci1)).toInt8.toInt32))), (.int (nar .byte ((nar .char (own_ch p2 ci2)).toInt8.toInt32)))]) cs T1405.heap n0 f1413 P1405_3 f1411 P1405_1 Z_S_COMPACT_STRINGS f1412 hcs P1405_2) hZ1405 (tw93 hw) (tw6 hw) (by decide) (by decide)) q1414a q1414c (g := (mkF m 56 #[vi p1, vi p2, vi p3, .val cv2, .val cv3, vr uu86, vr uu106, vr b1381, vr uu109, .val cv6] [(.ref uu109)])) rfl (by rw [hml]; rfl) (Steps.refl _) (argsL := []) (rest := []) (lenOf pd_8 rfl) rfl (Nat.le_of_eq rfl) (hb hby at_56) (fun _ _ => ⟨rfl, rfl, (by decide : 13 + 0 ≤ _), (by decide : 68 + 0 ≤ _)⟩)
      dsimp only [Pt.U, Pt.locs, Pt.cells, Pt.slots] at X1414 l1414 y1414 z1414 st1414 hQ1414
      subst l1414 y1414 z1414
      obtain ⟨rfl, N1414q, eq1414⟩ := hQ1414
      have N1415 := Fr.app N1409 N1414q
      refine GoH.step (fun _ k => st1414.trans (XS.iload X1414.here hx rfl (hb hby at_59) rfl (XS.icmpYes X1414.here hx rfl (pc0 := 61) (pc' := 66) rfl (hb hby at_61) rfl (teq (by decide)).1 (by decide) (by decide) (XS.aload X1414.here hx rfl (hb hby at_66) rfl rfl (XS.iconst X1414.here hx rfl (hb hby at_68) (XS.iload X1414.here hx rfl (hb hby at_69) rfl (XS.iloadN X1414.here hx rfl (hb hby at_71) rfl (XS.iloadN X1414.here hx rfl (hb hby at_72) rfl (XS.iloadN X1414.here hx rfl (hb hby at_73) rfl k))))))))) ?_
      show GoH p e below s _ _ _ T1414 (mkF m 74 #[vi p1, vi p2, vi p3, .val cv2, .val cv3, vr uu86, vr uu106, vr b1381, vr uu109, .val cv6] [(.int p2), (.int p1), cv2, cv6, cv0, (.ref uu109)])
      obtain ⟨_, _, ⟨T1416, L1416, k1416, n1416⟩, -, X1416, ⟨Lc1416, hQ1416, l1416, y1416, z1416⟩, st1416⟩ := Jvm.LawKit.callS X1414 hx (y := xm36) hown1405 (mvT hZ1405 (tw173 hw)) (mvT hZ1405 (tw174 hw)) (mvT hZ1405 (tw2 hw)) (mvT hZ1405 (tw175 hw)) (by decide) (backOf (W := 0) (rm_ObjectRefToStringPinLaw_ok_3 l Z a0 hw [] uu109 ci0 ci6 ci2 p1 p2 uu110 uu111 ci6 ([(.int (nar .byte ((nar .char (own_ch p1 ci0)).toInt8.toInt32))), (.int (nar .byte ((nar .char (own_ch p1 ci1)).toInt8.toInt32))), cv58, (.int (nar .byte ((nar .char (own_ch p2 ci0)).toInt8.toInt32))), (.int (nar .byte ((nar .char (own_ch p2 ci1)).toInt8.toInt32))), (.int (nar .byte ((nar .char (own_ch p2 ci2)).toInt8.toInt32)))]) (nar .byte ((nar .char (own_ch p1 ci0)).toInt8.toInt32)) cs fv T1405.heap n0 f1413 (by decide) (by decide) P1405_1 P1405_2 P1405_3 f1411 rfl Z_S_COMPACT_STRINGS Z_S_SIOOBE_FORMATTER f1412 hcs hfv (by decide) (by decide) (own_rt p1 ci0)) hZ1405 (tw175 hw) (tw2 hw) (by decide) (by decide)) (g := (mkF m 74 #[vi p1, vi p2, vi p3, .val cv2, .val cv3, vr uu86, vr uu106, vr b1381, vr uu109, .val cv6] [(.int p2), (.int p1), cv2, cv6, cv0, (.ref uu109)])) rfl (by rw [hml]; rfl) (argsL := [(.ref uu109), cv0, cv6, cv2, (.int p1), (.int p2)]) (rest := []) (lenOf pd_24 rfl) rfl (Nat.le_of_eq rfl) (hb hby at_74) (fun _ _ => ⟨rfl, eq1414, (by decide : 13 + 0 ≤ _), (by decide : 68 + 0 ≤ _)⟩)
      dsimp only [Pt.U, Pt.locs, Pt.cells, Pt.slots] at X1416 l1416 y1416 z1416 st1416 hQ1416
      subst l1416 y1416 z1416
      obtain ⟨rfl, N1416q, eq1416⟩ := hQ1416
      have N1417 := Fr.app N1415 N1416q
      refine GoH.step (fun _ k => st1416 _ (XS.ifNo X1416.here hx rfl (hb hby at_77) rfl ((if0 _ _).trans (feq (by decide)).1) (XS.aload X1416.here hx rfl (hb hby at_80) rfl rfl (XS.iconst X1416.here hx rfl (hb hby at_82) (XS.iload X1416.here hx rfl (hb hby at_83) rfl (XS.iloadN X1416.here hx rfl (hb hby at_85) rfl (XS.iloadN X1416.here hx rfl (hb hby at_86) rfl (XS.iloadN X1416.here hx rfl (hb hby at_87) rfl k)))))))) ?_
      show GoH p e below s _ _ _ T1416 (mkF m 88 #[vi p1, vi p2, vi p3, .val cv2, .val cv3, vr uu86, vr uu106, vr b1381, vr uu109, .val cv6] [(.int p2), (.int p1), cv2, cv6, cv1, (.ref uu109)])
      obtain ⟨_, _, ⟨T1418, L1418, k1418, n1418⟩, -, X1418, ⟨Lc1418, hQ1418, l1418, y1418, z1418⟩, st1418⟩ := Jvm.LawKit.callS X1416 hx (y := xm36) hown1405 (mvT hZ1405 (tw173 hw)) (mvT hZ1405 (tw174 hw)) (mvT hZ1405 (tw2 hw)) (mvT hZ1405 (tw175 hw)) (by decide) (backOf (W := 0) (rm_ObjectRefToStringPinLaw_ok_3 l Z a0 hw [] uu109 ci1 ci6 ci2 p1 p2 uu110 uu111 ci6 ([(.int (nar .byte ((nar .char (own_ch p1 ci0)).toInt8.toInt32))), (.int (nar .byte ((nar .char (own_ch p1 ci1)).toInt8.toInt32))), cv58, (.int (nar .byte ((nar .char (own_ch p2 ci0)).toInt8.toInt32))), (.int (nar .byte ((nar .char (own_ch p2 ci1)).toInt8.toInt32))), (.int (nar .byte ((nar .char (own_ch p2 ci2)).toInt8.toInt32)))]) (nar .byte ((nar .char (own_ch p1 ci1)).toInt8.toInt32)) cs fv T1405.heap n0 f1413 (by decide) (by decide) P1405_1 P1405_2 P1405_3 f1411 rfl Z_S_COMPACT_STRINGS Z_S_SIOOBE_FORMATTER f1412 hcs hfv (by decide) (by decide) (own_rt p1 ci1)) hZ1405 (tw175 hw) (tw2 hw) (by decide) (by decide)) (g := (mkF m 88 #[vi p1, vi p2, vi p3, .val cv2, .val cv3, vr uu86, vr uu106, vr b1381, vr uu109, .val cv6] [(.int p2), (.int p1), cv2, cv6, cv1, (.ref uu109)])) rfl (by rw [hml]; rfl) (argsL := [(.ref uu109), cv1, cv6, cv2, (.int p1), (.int p2)]) (rest := []) (lenOf pd_24 rfl) rfl (Nat.le_of_eq rfl) (hb hby at_88) (fun _ _ => ⟨rfl, eq1416, (by decide : 13 + 0 ≤ _), (by decide : 68 + 0 ≤ _)⟩)
      dsimp only [Pt.U, Pt.locs, Pt.cells, Pt.slots] at X1418 l1418 y1418 z1418 st1418 hQ1418
      subst l1418 y1418 z1418
      obtain ⟨rfl, N1418q, eq1418⟩ := hQ1418
      have N1419 := Fr.app N1417 N1418q
      refine GoH.step (fun _ k => st1418 _ (XS.ifNo X1418.here hx rfl (hb hby at_91) rfl ((if0 _ _).trans (feq (by decide)).1) (XS.aload X1418.here hx rfl (hb hby at_94) rfl rfl (XS.iconst X1418.here hx rfl (hb hby at_96) (XS.iload X1418.here hx rfl (hb hby at_97) rfl (XS.iloadN X1418.here hx rfl (hb hby at_99) rfl (XS.iloadN X1418.here hx rfl (hb hby at_100) rfl (XS.iloadN X1418.here hx rfl (hb hby at_101) rfl k)))))))) ?_
      show GoH p e below s _ _ _ T1418 (mkF m 102 #[vi p1, vi p2, vi p3, .val cv2, .val cv3, vr uu86, vr uu106, vr b1381, vr uu109, .val cv6] [(.int p2), (.int p1), cv2, cv6, cv2, (.ref uu109)])
      obtain ⟨_, _, ⟨T1420, L1420, k1420, n1420⟩, -, X1420, ⟨Lc1420, hQ1420, l1420, y1420, z1420⟩, st1420⟩ := Jvm.LawKit.callS X1418 hx (y := xm36) hown1405 (mvT hZ1405 (tw173 hw)) (mvT hZ1405 (tw174 hw)) (mvT hZ1405 (tw2 hw)) (mvT hZ1405 (tw175 hw)) (by decide) (backOf (W := 0) (rm_ObjectRefToStringPinLaw_ok_0 l Z a0 hw [] uu109 ci2 ci6 ci2 p1 p2 cs uu110 uu111 ci6 ([(.int (nar .byte ((nar .char (own_ch p1 ci0)).toInt8.toInt32))), (.int (nar .byte ((nar .char (own_ch p1 ci1)).toInt8.toInt32))), cv58, (.int (nar .byte ((nar .char (own_ch p2 ci0)).toInt8.toInt32))), (.int (nar .byte ((nar .char (own_ch p2 ci1)).toInt8.toInt32))), (.int (nar .byte ((nar .char (own_ch p2 ci2)).toInt8.toInt32)))]) fv ci58 T1405.heap n0 f1413 (by decide) (by decide) rfl P1405_1 Z_S_COMPACT_STRINGS f1412 hcs P1405_2 P1405_3 f1411 Z_S_SIOOBE_FORMATTER hfv rfl (by decide) (by decide) (by decide)) hZ1405 (tw175 hw) (tw2 hw) (by decide) (by decide)) (g := (mkF m 102 #[vi p1, vi p2, vi p3, .val cv2, .val cv3, vr uu86, vr uu106, vr b1381, vr uu109, .val cv6] [(.int p2), (.int p1), cv2, cv6, cv2, (.ref uu109)])) rfl (by rw [hml]; rfl) (argsL := [(.ref uu109), cv2, cv6, cv2, (.int p1), (.int p2)]) (rest := []) (lenOf pd_24 rfl) rfl (Nat.le_of_eq rfl) (hb hby at_102) (fun _ _ => ⟨rfl, eq1418, (by decide : 13 + 0 ≤ _), (by decide : 68 + 0 ≤ _)⟩)
      dsimp only [Pt.U, Pt.locs, Pt.cells, Pt.slots] at X1420 l1420 y1420 z1420 st1420 hQ1420
      subst l1420 y1420 z1420
      obtain ⟨rfl, N1420q, eq1420⟩ := hQ1420
      have N1421 := Fr.app N1419 N1420q
      refine GoH.step (fun _ k => st1420 _ (XS.ifNo X1420.here hx rfl (hb hby at_105) rfl ((if0 _ _).trans (feq (by decide)).1) (XS.aload X1420.here hx rfl (hb hby at_108) rfl rfl (XS.iconst X1420.here hx rfl (hb hby at_110) (XS.iload X1420.here hx rfl (hb hby at_111) rfl (XS.iloadN X1420.here hx rfl (hb hby at_113) rfl (XS.iloadN X1420.here hx rfl (hb hby at_114) rfl (XS.iloadN X1420.here hx rfl (hb hby at_115) rfl k)))))))) ?_
      show GoH p e below s _ _ _ T1420 (mkF m 116 #[vi p1, vi p2, vi p3, .val cv2, .val cv3, vr uu86, vr uu106, vr b1381, vr uu109, .val cv6] [(.int p2), (.int p1), cv2, cv6, cv3, (.ref uu109)])
      obtain ⟨_, _, ⟨T1422, L1422, k1422, n1422⟩, -, X1422, ⟨Lc1422, hQ1422, l1422, y1422, z1422⟩, st1422⟩ := Jvm.LawKit.callS X1420 hx (y := xm36) hown1405 (mvT hZ1405 (tw173 hw)) (mvT hZ1405 (tw174 hw)) (mvT hZ1405 (tw2 hw)) (mvT hZ1405 (tw175 hw)) (by decide) (backOf (W := 0) (rm_ObjectRefToStringPinLaw_ok_2 l Z a0 hw [] uu109 ci3 ci6 ci2 p1 p2 uu110 uu111 ci6 ([(.int (nar .byte ((nar .char (own_ch p1 ci0)).toInt8.toInt32))), (.int (nar .byte ((nar .char (own_ch p1 ci1)).toInt8.toInt32))), cv58, (.int (nar .byte ((nar .char (own_ch p2 ci0)).toInt8.toInt32))), (.int (nar .byte ((nar .char (own_ch p2 ci1)).toInt8.toInt32))), (.int (nar .byte ((nar .char (own_ch p2 ci2)).toInt8.toInt32)))]) (nar .byte ((nar .char (own_ch p2 ci0)).toInt8.toInt32)) cs fv T1405.heap n0 f1413 (by decide) (by decide) (by decide) P1405_1 P1405_2 P1405_3 f1411 rfl Z_S_COMPACT_STRINGS Z_S_SIOOBE_FORMATTER f1412 hcs hfv (by decide) (by decide) (own_rt p2 ci0)) hZ1405 (tw175 hw) (tw2 hw) (by decide) (by decide)) (g := (mkF m 116 #[vi p1, vi p2, vi p3, .val cv2, .val cv3, vr uu86, vr uu106, vr b1381, vr uu109, .val cv6] [(.int p2), (.int p1), cv2, cv6, cv3, (.ref uu109)])) rfl (by rw [hml]; rfl) (argsL := [(.ref uu109), cv3, cv6, cv2, (.int p1), (.int p2)]) (rest := []) (lenOf pd_24 rfl) rfl (Nat.le_of_eq rfl) (hb hby at_116) (fun _ _ => ⟨rfl, eq1420, (by decide : 13 + 0 ≤ _), (by decide : 68 + 0 ≤ _)⟩)
      dsimp only [Pt.U, Pt.locs, Pt.cells, Pt.slots] at X1422 l1422 y1422 z1422 st1422 hQ1422
      subst l1422 y1422 z1422
      obtain ⟨rfl, N1422q, eq1422⟩ := hQ1422
      have N1423 := Fr.app N1421 N1422q
      refine GoH.step (fun _ k => st1422 _ (XS.ifNo X1422.here hx rfl (hb hby at_119) rfl ((if0 _ _).trans (feq (by decide)).1) (XS.aload X1422.here hx rfl (hb hby at_122) rfl rfl (XS.iconst X1422.here hx rfl (hb hby at_124) (XS.iload X1422.here hx rfl (hb hby at_125) rfl (XS.iloadN X1422.here hx rfl (hb hby at_127) rfl (XS.iloadN X1422.here hx rfl (hb hby at_128) rfl (XS.iloadN X1422.here hx rfl (hb hby at_129) rfl k)))))))) ?_
      show GoH p e below s _ _ _ T1422 (mkF m 130 #[vi p1, vi p2, vi p3, .val cv2, .val cv3, vr uu86, vr uu106, vr b1381, vr uu109, .val cv6] [(.int p2), (.int p1), cv2, cv6, cv4, (.ref uu109)])
      obtain ⟨_, _, ⟨T1424, L1424, k1424, n1424⟩, -, X1424, ⟨Lc1424, hQ1424, l1424, y1424, z1424⟩, st1424⟩ := Jvm.LawKit.callS X1422 hx (y := xm36) hown1405 (mvT hZ1405 (tw173 hw)) (mvT hZ1405 (tw174 hw)) (mvT hZ1405 (tw2 hw)) (mvT hZ1405 (tw175 hw)) (by decide) (backOf (W := 0) (rm_ObjectRefToStringPinLaw_ok_2 l Z a0 hw [] uu109 ci4 ci6 ci2 p1 p2 uu110 uu111 ci6 ([(.int (nar .byte ((nar .char (own_ch p1 ci0)).toInt8.toInt32))), (.int (nar .byte ((nar .char (own_ch p1 ci1)).toInt8.toInt32))), cv58, (.int (nar .byte ((nar .char (own_ch p2 ci0)).toInt8.toInt32))), (.int (nar .byte ((nar .char (own_ch p2 ci1)).toInt8.toInt32))), (.int (nar .byte ((nar .char (own_ch p2 ci2)).toInt8.toInt32)))]) (nar .byte ((nar .char (own_ch p2 ci1)).toInt8.toInt32)) cs fv T1405.heap n0 f1413 (by decide) (by decide) (by decide) P1405_1 P1405_2 P1405_3 f1411 rfl Z_S_COMPACT_STRINGS Z_S_SIOOBE_FORMATTER f1412 hcs hfv (by decide) (by decide) (own_rt p2 ci1)) hZ1405 (tw175 hw) (tw2 hw) (by decide) (by decide)) (g := (mkF m 130 #[vi p1, vi p2, vi p3, .val cv2, .val cv3, vr uu86, vr uu106, vr b1381, vr uu109, .val cv6] [(.int p2), (.int p1), cv2, cv6, cv4, (.ref uu109)])) rfl (by rw [hml]; rfl) (argsL := [(.ref uu109), cv4, cv6, cv2, (.int p1), (.int p2)]) (rest := []) (lenOf pd_24 rfl) rfl (Nat.le_of_eq rfl) (hb hby at_130) (fun _ _ => ⟨rfl, eq1422, (by decide : 13 + 0 ≤ _), (by decide : 68 + 0 ≤ _)⟩)
      dsimp only [Pt.U, Pt.locs, Pt.cells, Pt.slots] at X1424 l1424 y1424 z1424 st1424 hQ1424
      subst l1424 y1424 z1424
      obtain ⟨rfl, N1424q, eq1424⟩ := hQ1424
      have N1425 := Fr.app N1423 N1424q
      refine GoH.step (fun _ k => st1424 _ (XS.ifNo X1424.here hx rfl (hb hby at_133) rfl ((if0 _ _).trans (feq (by decide)).1) (XS.aload X1424.here hx rfl (hb hby at_136) rfl rfl (XS.iconst X1424.here hx rfl (hb hby at_138) (XS.iload X1424.here hx rfl (hb hby at_139) rfl (XS.iloadN X1424.here hx rfl (hb hby at_141) rfl (XS.iloadN X1424.here hx rfl (hb hby at_142) rfl (XS.iloadN X1424.here hx rfl (hb hby at_143) rfl k)))))))) ?_
      show GoH p e below s _ _ _ T1424 (mkF m 144 #[vi p1, vi p2, vi p3, .val cv2, .val cv3, vr uu86, vr uu106, vr b1381, vr uu109, .val cv6] [(.int p2), (.int p1), cv2, cv6, cv5, (.ref uu109)])
      obtain ⟨_, _, ⟨T1426, L1426, k1426, n1426⟩, -, X1426, ⟨Lc1426, hQ1426, l1426, y1426, z1426⟩, st1426⟩ := Jvm.LawKit.callS X1424 hx (y := xm36) hown1405 (mvT hZ1405 (tw173 hw)) (mvT hZ1405 (tw174 hw)) (mvT hZ1405 (tw2 hw)) (mvT hZ1405 (tw175 hw)) (by decide) (backOf (W := 0) (rm_ObjectRefToStringPinLaw_ok_2 l Z a0 hw [] uu109 ci5 ci6 ci2 p1 p2 uu110 uu111 ci6 ([(.int (nar .byte ((nar .char (own_ch p1 ci0)).toInt8.toInt32))), (.int (nar .byte ((nar .char (own_ch p1 ci1)).toInt8.toInt32))), cv58, (.int (nar .byte ((nar .char (own_ch p2 ci0)).toInt8.toInt32))), (.int (nar .byte ((nar .char (own_ch p2 ci1)).toInt8.toInt32))), (.int (nar .byte ((nar .char (own_ch p2 ci2)).toInt8.toInt32)))]) (nar .byte ((nar .char (own_ch p2 ci2)).toInt8.toInt32)) cs fv T1405.heap n0 f1413 (by decide) (by decide) (by decide) P1405_1 P1405_2 P1405_3 f1411 rfl Z_S_COMPACT_STRINGS Z_S_SIOOBE_FORMATTER f1412 hcs hfv (by decide) (by decide) (own_rt p2 ci2)) hZ1405 (tw175 hw) (tw2 hw) (by decide) (by decide)) (g := (mkF m 144 #[vi p1, vi p2, vi p3, .val cv2, .val cv3, vr uu86, vr uu106, vr b1381, vr uu109, .val cv6] [(.int p2), (.int p1), cv2, cv6, cv5, (.ref uu109)])) rfl (by rw [hml]; rfl) (argsL := [(.ref uu109), cv5, cv6, cv2, (.int p1), (.int p2)]) (rest := []) (lenOf pd_24 rfl) rfl (Nat.le_of_eq rfl) (hb hby at_144) (fun _ _ => ⟨rfl, eq1424, (by decide : 13 + 0 ≤ _), (by decide : 68 + 0 ≤ _)⟩)
      dsimp only [Pt.U, Pt.locs, Pt.cells, Pt.slots] at X1426 l1426 y1426 z1426 st1426 hQ1426
      subst l1426 y1426 z1426
      obtain ⟨rfl, N1426q, eq1426⟩ := hQ1426
      have N1427 := Fr.app N1425 N1426q
      refine GoH.step (fun _ k => st1426 _ (XS.ifNo X1426.here hx rfl (hb hby at_147) rfl ((if0 _ _).trans (feq (by decide)).1) (XS.aload X1426.here hx rfl (hb hby at_150) rfl rfl (XS.bipush X1426.here hx rfl (hb hby at_152) (XS.iload X1426.here hx rfl (hb hby at_154) rfl (XS.iloadN X1426.here hx rfl (hb hby at_156) rfl (XS.iloadN X1426.here hx rfl (hb hby at_157) rfl (XS.iloadN X1426.here hx rfl (hb hby at_158) rfl k)))))))) ?_
      show GoH p e below s _ _ _ T1426 (mkF m 159 #[vi p1, vi p2, vi p3, .val cv2, .val cv3, vr uu86, vr uu106, vr b1381, vr uu109, .val cv6] [(.int p2), (.int p1), cv2, cv6, cv6, (.ref uu109)])
      obtain ⟨_, _, ⟨T1428, L1428, k1428, n1428⟩, -, X1428, ⟨Lc1428, hQ1428, l1428, y1428, z1428⟩, st1428⟩ := Jvm.LawKit.callS X1426 hx (y := xm36) hown1405 (mvT hZ1405 (tw173 hw)) (mvT hZ1405 (tw174 hw)) (mvT hZ1405 (tw2 hw)) (mvT hZ1405 (tw175 hw)) (by decide) (backOf (W := 0) (rm_ObjectRefToStringPinLaw_ok_1 l Z a0 hw [] uu109 ci6 ci6 ci2 p1 p2 T1405.heap n0 f1413 (by decide)) hZ1405 (tw175 hw) (tw2 hw) (by decide) (by decide)) (g := (mkF m 159 #[vi p1, vi p2, vi p3, .val cv2, .val cv3, vr uu86, vr uu106, vr b1381, vr uu109, .val cv6] [(.int p2), (.int p1), cv2, cv6, cv6, (.ref uu109)])) rfl (by rw [hml]; rfl) (argsL := [(.ref uu109), cv6, cv6, cv2, (.int p1), (.int p2)]) (rest := []) (lenOf pd_24 rfl) rfl (Nat.le_of_eq rfl) (hb hby at_159) (fun _ _ => ⟨rfl, eq1426, (by decide : 13 + 0 ≤ _), (by decide : 68 + 0 ≤ _)⟩)
      dsimp only [Pt.U, Pt.locs, Pt.cells, Pt.slots] at X1428 l1428 y1428 z1428 st1428 hQ1428
      subst l1428 y1428 z1428
      obtain ⟨rfl, N1428q, eq1428⟩ := hQ1428
      have N1429 := Fr.app N1427 N1428q
      refine GoH.step (fun _ k => st1428 _ (XS.ifNo X1428.here hx rfl (hb hby at_162) rfl ((if0 _ _).trans (feq (by decide)).1) (XS.iconst X1428.here hx rfl (hb hby at_165) (XS.goto X1428.here hx rfl (pc0 := 166) (pc' := 170) rfl (hb hby at_166) (by decide) (by decide) k)))) ?_
      show GoH p e below s _ _ _ T1428 (mkF m 170 #[vi p1, vi p2, vi p3, .val cv2, .val cv3, vr uu86, vr uu106, vr b1381, vr uu109, .val cv6] [cv1])
      exact GoH.retN X1428 hS1405 hx hlk (t := .boolean) Bd.returns (by simp) (hb hby at_170) eq1428 (Nat.le_refl _) ⟨rfl, N1429⟩ (f1410.trans (CHv.at X1428 hZ1405 (own_EW hw) f1410.1)) (by decide) (by decide)
  · show GoH p e below s _ _ _ s₁ (mkF m 13 #[vi p1, vi p2, vi p3, .val cv3, vi rl, .unset, .unset, .unset, .unset, .unset] [cv3, (.int p1)])
    obtain ⟨_, _, ⟨T1430, L1430, k1430, n1430⟩, -, X1430s, hs1430, hg1430, ⟨Lc1430, hQ1430, l1430, y1430, z1430, ch1430⟩, st1430⟩ := callSS X0 hx (y := xm33) hown (mvT hZ (tw0 hw)) (mvT hZ (tw1 hw)) (mvT hZ (tw2 hw)) (mvT hZ (tw3 hw)) (by decide) (backOfSH (W := 0) (rm_ObjectRefToStringPinLaw_make_3 l Z a0 hw [] p1 cs h0 n0 Z0 Z_S_COMPACT_STRINGS O0 hcs (own_c2 p1 ci0) (own_c2 p1 ci1) (own_c2 p1 ci2)) hZ (tw3 hw) (tw2 hw) (by decide) (by decide) (own_EW hw) CH0.1) (g := (mkF m 13 #[vi p1, vi p2, vi p3, .val cv3, vi rl, .unset, .unset, .unset, .unset, .unset] [cv3, (.int p1)])) rfl (by rw [hml]; rfl) (argsL := [(.int p1), cv3]) (rest := []) (lenOf pd_3 rfl) rfl (Nat.le_of_eq rfl) (hb hby at_13) (fun _ _ => ⟨rfl, e0, (by decide : 0 + 3 ≤ _), (by decide : 0 + 10 ≤ _)⟩)
    dsimp only [Pt.U, Pt.locs, Pt.cells, Pt.slots] at X1430s hs1430 hg1430 l1430 y1430 z1430 st1430 hQ1430 ch1430
    subst l1430 y1430 z1430
    obtain ⟨X1430, hS1430, hZ1430, hown1430⟩ := rebS hS0 (by rw [e0]; exact (Nat.le_refl _)) X1430s hs1430 hg1430 hZ hown
    obtain ⟨uu112, uu113, uu114, rfl, N1430q, K1430, P1430_0, P1430_1, P1430_2, P1430_3, P1430_4, P1430_5, P1430_6⟩ := hQ1430
    have N1431 := Fr.app N0 N1430q
    have f1432 := CH0.trans ch1430
    refine GoH.step (fun _ k => st1430.trans (XS.astore X1430.here hx rfl (hb hby at_16) rfl rfl (l' := #[vi p1, vi p2, vi p3, .val cv3, vi rl, vr uu112, .unset, .unset, .unset, .unset]) rfl (XS.iloadN X1430.here hx rfl (hb hby at_18) rfl (XS.iload X1430.here hx rfl (hb hby at_19) rfl k)))) ?_
    show GoH p e below s _ _ _ T1430 (mkF m 21 #[vi p1, vi p2, vi p3, .val cv3, vi rl, vr uu112, .unset, .unset, .unset, .unset] [(.int rl), (.int p2)])
    rcases hrl with rfl | rfl | rfl | rfl
    · show GoH p e below s _ _ _ T1430 (mkF m 21 #[vi p1, vi p2, vi p3, .val cv3, .val cv0, vr uu112, .unset, .unset, .unset, .unset] [cv0, (.int p2)])
      have f1433 := (Nat.le_trans Z0 K1430.1)
      obtain ⟨_, _, ⟨T1434, L1434, k1434, n1434⟩, -, X1434s, hs1434, hg1434, ⟨Lc1434, hQ1434, l1434, y1434, z1434, ch1434⟩, st1434⟩ := callSS X1430 hx (y := xm33) hown1430 (mvT hZ1430 (tw0 hw)) (mvT hZ1430 (tw1 hw)) (mvT hZ1430 (tw2 hw)) (mvT hZ1430 (tw3 hw)) (by decide) (backOfSH (W := 0) (rm_ObjectRefToStringPinLaw_make_0 l Z a0 hw [] p2 T1430.heap n0 f1433) hZ1430 (tw3 hw) (tw2 hw) (by decide) (by decide) (own_EW hw) f1432.1) (g := (mkF m 21 #[vi p1, vi p2, vi p3, .val cv3, .val cv0, vr uu112, .unset, .unset, .unset, .unset] [cv0, (.int p2)])) rfl (by rw [hml]; rfl) (argsL := [(.int p2), cv0]) (rest := []) (lenOf pd_3 rfl) rfl (Nat.le_of_eq rfl) (hb hby at_21) (fun _ _ => ⟨rfl, rfl, (by decide : 3 + 6 ≤ _), (by decide : 10 + 12 ≤ _)⟩)
      dsimp only [Pt.U, Pt.locs, Pt.cells, Pt.slots] at X1434s hs1434 hg1434 l1434 y1434 z1434 st1434 hQ1434 ch1434
      subst l1434 y1434 z1434
      obtain ⟨X1434, hS1434, hZ1434, hown1434⟩ := rebS hS1430 (by exact (Nat.le_refl _)) X1434s hs1434 hg1434 hZ1430 hown1430
      obtain ⟨uu115, uu116, kb13_41_49_1434, rfl, N1434q, K1434, P1434_0, P1434_1, P1434_2, P1434_3, P1434_4⟩ := hQ1434
      have N1435 := Fr.app N1431 N1434q
      have f1436 := f1432.trans ch1434
      refine GoH.step (fun _ k => st1434.trans (XS.astore X1434.here hx rfl (hb hby at_24) rfl rfl (l' := #[vi p1, vi p2, vi p3, .val cv3, .val cv0, vr uu112, vr uu115, .unset, .unset, .unset]) rfl k)) ?_
      show GoH p e below s _ _ _ T1434 (mkF m 26 #[vi p1, vi p2, vi p3, .val cv3, .val cv0, vr uu112, vr uu115, .unset, .unset, .unset] [])
      obtain ⟨T1437, h1437, X1437, e1437, E1437, A1437, D1437, -, st1437⟩ := newO X1434 hx hZ1434 hown1434 (tw40 hw) (tw41 hw) (tw42 hw) rfl (g := (mkF m 26 #[vi p1, vi p2, vi p3, .val cv3, .val cv0, vr uu112, vr uu115, .unset, .unset, .unset] [])) rfl (hb hby at_26) (by decide) (by decide)
      obtain ⟨b1437, g1437⟩ : ∃ z, z = T1434.heap.size := ⟨_, rfl⟩
      rw [← g1437] at A1437 D1437 st1437
      have f1438 : Fld Z h1437 b1437 xs3 "type" xs21 .null := D1437 (Or.inr (tw53 hw)) (ty := (.object xs25)) (by decide)
      have f1439 : Fld Z h1437 b1437 xs3 "id" xs21 .null := D1437 (Or.inr (tw55 hw)) (ty := (.object xs25)) (by decide)
      refine GoH.step (fun _ k => st1437 _ (XS.dup X1437.here hx rfl (hb hby at_29) rfl rfl (XS.aload X1437.here hx rfl (hb hby at_30) rfl rfl (XS.aload X1437.here hx rfl (hb hby at_32) rfl rfl k)))) ?_
      show GoH p e below s _ _ _ T1437 (mkF m 34 #[vi p1, vi p2, vi p3, .val cv3, .val cv0, vr uu112, vr uu115, .unset, .unset, .unset] [(.ref uu115), (.ref uu112), (.ref b1437), (.ref b1437)])
      have f1440 := (Nat.le_trans (Nat.le_trans f1433 K1434.1) E1437.1)
      have f1441 := (Nat.le_trans f1433 K1434.1)
      have g1442 := Nat.le_trans f1441 (Nat.le_of_eq g1437.symm)
      obtain ⟨_, _, ⟨T1443, L1443, k1443, n1443⟩, -, X1443, ⟨Lc1443, hQ1443, l1443, y1443, z1443⟩, st1443⟩ := X1437.specialBack hx (y := xm31) rfl hown1434 (mvT hZ1434 (tw43 hw)) (mvT hZ1434 (tw44 hw)) (mvT hZ1434 (tw45 hw)) (by decide) (backOf (W := 1) (rm_ObjectRef_new_0 l Z a0 hw [] b1437 uu112 uu115 h1437 n0 f1440 A1437 f1438 g1442 f1439) hZ1434 (tw45 hw) (tw42 hw) (by decide) (by decide)) (g := (mkF m 34 #[vi p1, vi p2, vi p3, .val cv3, .val cv0, vr uu112, vr uu115, .unset, .unset, .unset] [(.ref uu115), (.ref uu112), (.ref b1437), (.ref b1437)])) rfl (by rw [hml]; rfl) (Steps.refl _) (a := b1437) (argsL := [(.ref uu112), (.ref uu115)]) (rest := [(.ref b1437)]) (lenOf pd_5 rfl) rfl (Nat.le_of_eq rfl) (hb hby at_34) (fun _ _ => ⟨rfl, e1437, (by decide : 10 + 0 ≤ _), (by decide : 24 + 0 ≤ _)⟩)
      dsimp only [Pt.U, Pt.locs, Pt.cells, Pt.slots] at X1443 l1443 y1443 z1443 st1443 hQ1443
      subst l1443 y1443 z1443
      obtain ⟨rfl, N1443q, K1443, P1443_0, P1443_1⟩ := hQ1443
      have N1444 := Fr.app N1435 N1443q
      refine GoH.step (fun _ k => st1443.trans (XS.astore X1443.here hx rfl (hb hby at_37) rfl rfl (l' := #[vi p1, vi p2, vi p3, .val cv3, .val cv0, vr uu112, vr uu115, vr b1437, .unset, .unset]) rfl (XS.aload X1443.here hx rfl (hb hby at_39) rfl rfl k))) ?_
      show GoH p e below s _ _ _ T1443 (mkF m 41 #[vi p1, vi p2, vi p3, .val cv3, .val cv0, vr uu112, vr uu115, vr b1437, .unset, .unset] [(.ref b1437)])
      have f1445 := ((((O0.keep K1430 all0).keep K1434 all0).ext E1437).keep K1443 (allS g1442 all0))
      have f1446 := (Nat.le_trans f1440 K1443.1)
      have f1447 := (((P1430_1.keep K1434).ext E1437).keep K1443)
      have f1448 := (P1430_1.keep K1434)
      have ne1449 : uu112 ≠ b1437 := Nat.ne_of_lt (Nat.lt_of_lt_of_le f1448.lt (Nat.le_of_eq g1437.symm))
      have f1450 := (((P1430_3.keep K1434 nin0).ext E1437).keep K1443 (ninS ne1449 nin0))
      have f1451 := (P1430_5.keep K1434 nin0)
      have ne1452 : uu113 ≠ b1437 := Nat.ne_of_lt (Nat.lt_of_lt_of_le f1451.lt (Nat.le_of_eq g1437.symm))
      have f1453 := (((P1430_5.keep K1434 nin0).ext E1437).keep K1443 (ninS ne1452 nin0))
      have f1454 := (((P1430_2.keep K1434 nin0).ext E1437).keep K1443 (ninS ne1449 nin0))
      have f1455 := ((P1434_1.ext E1437).keep K1443)
      have ne1456 : uu115 ≠ b1437 := Nat.ne_of_lt (Nat.lt_of_lt_of_le P1434_1.lt (Nat.le_of_eq g1437.symm))
      have f1457 := ((P1434_3.ext E1437).keep K1443 (ninS ne1456 nin0))
      have ne1458 : uu116 ≠ b1437 := Nat.ne_of_lt (Nat.lt_of_lt_of_le P1434_4.lt (Nat.le_of_eq g1437.symm))
      have f1459 := ((P1434_4.ext E1437).keep K1443 (ninS ne1458 nin0))
      have f1460 := ((P1434_2.ext E1437).keep K1443 (ninS ne1456 nin0))
      have f1462 := (own_chK (own_chE f1436 E1437) K1443 (sfS (Safe.exa hZ1434.alike A1437 (by decide) (by decide)) sf0))
      have f1463 := (A1437.keep K1443)
      obtain ⟨cq1461, kq1461, q1461a, q1461b, q1461c⟩ := isOf hZ1434 rfl f1463
      obtain ⟨_, _, ⟨T1461, L1461, k1461, n1461⟩, -, X1461s, hs1461, hg1461, ⟨Lc1461, hQ1461, l1461, y1461, z1461, ch1461⟩, st1461⟩ := X1443.virtualBackS hx (y := xm21) (z := xm21) hown1434 (mvT hZ1434 (tw56 hw)) (mvT hZ1434 (tw57 hw)) (notFace_of_selects (args := #[]) (mvT hZ1434 (tw59 hw))) (mvT hZ1434 (tw59 hw)) (mvT hZ1434 (tw58 hw)) (by decide) (backOfSH (W := 0) (rm_ObjectRef_toString_0 l Z a0 hw [] b1437 cs uu112 uu113 uu114 ci3 ([(.int (nar .byte ((nar .char (own_ch p1 ci0)).toInt8.toInt32))), (.int (nar .byte ((nar .char (own_ch p1 ci1)).toInt8.toInt32))), (.int (nar .byte ((nar .char (own_ch p1 ci2)).toInt8.toInt32)))]) uu115 uu116 kb13_41_49_1434 ci0 ([]) T1443.heap n0 f1446 Z_S_COMPACT_STRINGS f1445 hcs P1443_0 f1447 f1450 f1453 f1454 (by decide) (by decide) (Nat.le_of_ble_eq_true rfl) (Nat.le_of_ble_eq_true rfl) (Nat.le_of_ble_eq_true rfl) (by decide) (by decide) (Nat.le_of_ble_eq_true rfl) (Nat.le_of_ble_eq_true rfl) P1443_1 f1455 f1457 f1459 f1460 (by decide) (by decide) (by decide) (Nat.le_of_ble_eq_true rfl) (Nat.le_of_ble_eq_true rfl) (Nat.le_of_ble_eq_true rfl) (by decide) (by decide) (by decide) (Nat.le_of_ble_eq_true rfl) (by decide) (Nat.le_of_ble_eq_true rfl) (Nat.le_of_ble_eq_true rfl) (Nat.le_of_ble_eq_true rfl)) hZ1434 (tw60 hw) (tw42 hw) (by decide) (by decide) (own_EW hw) f1462.1) q1461a q1461c (g := (mkF m 41 #[vi p1, vi p2, vi p3, .val cv3, .val cv0, vr uu112, vr uu115, vr b1437, .unset, .unset] [(.ref b1437)])) rfl (by rw [hml]; rfl) (Steps.refl _) (argsL := []) (rest := []) (lenOf pd_21 rfl) rfl (Nat.le_of_eq rfl) (hb hby at_41) (fun _ _ => ⟨rfl, rfl, (by decide : 10 + 6 ≤ _), (by decide : 24 + 48 ≤ _)⟩)
      dsimp only [Pt.U, Pt.locs, Pt.cells, Pt.slots] at X1461s hs1461 hg1461 l1461 y1461 z1461 st1461 hQ1461 ch1461
      subst l1461 y1461 z1461
      have f1464 := (Nat.le_trans (Nat.le_trans (Nat.le_refl _) E1437.1) K1443.1)
      obtain ⟨X1461, hS1461, hZ1461, hown1461⟩ := rebS hS1434 (by exact f1464) X1461s hs1461 hg1461 hZ1434 hown1434
      obtain ⟨uu117, uu118, uu119, rfl, N1461q, K1461, P1461_0, P1461_1, P1461_2, P1461_3, P1461_4, P1461_5, P1461_6⟩ := hQ1461
      have N1465 := Fr.app N1444 N1461q
      have f1466 := f1462.trans ch1461
      refine GoH.step (fun _ k => st1461.trans k) ?_
      show GoH p e below s _ _ _ T1461 (mkF m 44 #[vi p1, vi p2, vi p3, .val cv3, .val cv0, vr uu112, vr uu115, vr b1437, .unset, .unset] [(.ref uu117)])
      have f1467 : Arv Z T1461.heap uu118 uu119 .byte ci4 [(.int (nar .byte ((nar .char (own_ch p1 ci0)).toInt8.toInt32))), (.int (nar .byte ((nar .char (own_ch p1 ci1)).toInt8.toInt32))), (.int (nar .byte ((nar .char (own_ch p1 ci2)).toInt8.toInt32))), cv58] cv0 := P1461_5
      refine GoH.step (fun _ k => XS.astore X1461.here hx rfl (hb hby at_44) rfl rfl (l' := #[vi p1, vi p2, vi p3, .val cv3, .val cv0, vr uu112, vr uu115, vr b1437, vr uu117, .unset]) rfl (XS.iloadN X1461.here hx rfl (hb hby at_46) rfl (XS.iconst X1461.here hx rfl (hb hby at_47) (XS.iadd X1461.here hx rfl (hb hby at_48) rfl (XS.iload X1461.here hx rfl (hb hby at_49) rfl (XS.iadd X1461.here hx rfl (hb hby at_51) rfl (XS.istore X1461.here hx rfl (hb hby at_52) rfl (l' := #[vi p1, vi p2, vi p3, .val cv3, .val cv0, vr uu112, vr uu115, vr b1437, vr uu117, .val cv4]) rfl (XS.aload X1461.here hx rfl (hb hby at_54) rfl rfl k)))))))) ?_
      show GoH p e below s _ _ _ T1461 (mkF m 56 #[vi p1, vi p2, vi p3, .val cv3, .val cv0, vr uu112, vr uu115, vr b1437, vr uu117, .val cv4] [(.ref uu117)])
      have f1468 := (f1445.keep K1461 all0)
      have f1469 := (Nat.le_trans f1446 K1461.1)
      obtain ⟨cq1470, kq1470, q1470a, q1470b, q1470c⟩ := isOf hZ1461 rfl P1461_1
      obtain ⟨_, _, ⟨T1470, L1470, k1470, n1470⟩, -, X1470, ⟨Lc1470, hQ1470, l1470, y1470, z1470⟩, st1470⟩ := X1461.virtualBack hx (y := xm19) (z := xm19) hown1461 (mvT hZ1461 (tw172 hw)) (mvT hZ1461 (tw90 hw)) (notFace_of_selects (args := #[]) (mvT hZ1461 (tw92 hw))) (mvT hZ1461 (tw92 hw)) (mvT hZ1461 (tw91 hw)) (by decide) (backOf (W := 0) (rm_String_length_0 l Z a0 hw [] uu117 uu118 uu119 ci4 ([(.int (nar .byte ((nar .char (own_ch p1 ci0)).toInt8.toInt32))), (.int (nar .byte ((nar .char (own_ch p1 ci1)).toInt8.toInt32))), (.int (nar .byte ((nar .char (own_ch p1 ci2)).toInt8.toInt32))), cv58]) cs T1461.heap n0 f1469 P1461_3 f1467 P1461_1 Z_S_COMPACT_STRINGS f1468 hcs P1461_2) hZ1461 (tw93 hw) (tw6 hw) (by decide) (by decide)) q1470a q1470c (g := (mkF m 56 #[vi p1, vi p2, vi p3, .val cv3, .val cv0, vr uu112, vr uu115, vr b1437, vr uu117, .val cv4] [(.ref uu117)])) rfl (by rw [hml]; rfl) (Steps.refl _) (argsL := []) (rest := []) (lenOf pd_8 rfl) rfl (Nat.le_of_eq rfl) (hb hby at_56) (fun _ _ => ⟨rfl, rfl, (by decide : 16 + 0 ≤ _), (by decide : 72 + 0 ≤ _)⟩)
      dsimp only [Pt.U, Pt.locs, Pt.cells, Pt.slots] at X1470 l1470 y1470 z1470 st1470 hQ1470
      subst l1470 y1470 z1470
      obtain ⟨rfl, N1470q, eq1470⟩ := hQ1470
      have N1471 := Fr.app N1465 N1470q
      refine GoH.step (fun _ k => st1470.trans (XS.iload X1470.here hx rfl (hb hby at_59) rfl (XS.icmpYes X1470.here hx rfl (pc0 := 61) (pc' := 66) rfl (hb hby at_61) rfl (teq (by decide)).1 (by decide) (by decide) (XS.aload X1470.here hx rfl (hb hby at_66) rfl rfl (XS.iconst X1470.here hx rfl (hb hby at_68) (XS.iload X1470.here hx rfl (hb hby at_69) rfl (XS.iloadN X1470.here hx rfl (hb hby at_71) rfl (XS.iloadN X1470.here hx rfl (hb hby at_72) rfl (XS.iloadN X1470.here hx rfl (hb hby at_73) rfl k))))))))) ?_
      show GoH p e below s _ _ _ T1470 (mkF m 74 #[vi p1, vi p2, vi p3, .val cv3, .val cv0, vr uu112, vr uu115, vr b1437, vr uu117, .val cv4] [(.int p2), (.int p1), cv3, cv4, cv0, (.ref uu117)])
      obtain ⟨_, _, ⟨T1472, L1472, k1472, n1472⟩, -, X1472, ⟨Lc1472, hQ1472, l1472, y1472, z1472⟩, st1472⟩ := Jvm.LawKit.callS X1470 hx (y := xm36) hown1461 (mvT hZ1461 (tw173 hw)) (mvT hZ1461 (tw174 hw)) (mvT hZ1461 (tw2 hw)) (mvT hZ1461 (tw175 hw)) (by decide) (backOf (W := 0) (rm_ObjectRefToStringPinLaw_ok_3 l Z a0 hw [] uu117 ci0 ci4 ci3 p1 p2 uu118 uu119 ci4 ([(.int (nar .byte ((nar .char (own_ch p1 ci0)).toInt8.toInt32))), (.int (nar .byte ((nar .char (own_ch p1 ci1)).toInt8.toInt32))), (.int (nar .byte ((nar .char (own_ch p1 ci2)).toInt8.toInt32))), cv58]) (nar .byte ((nar .char (own_ch p1 ci0)).toInt8.toInt32)) cs fv T1461.heap n0 f1469 (by decide) (by decide) P1461_1 P1461_2 P1461_3 f1467 rfl Z_S_COMPACT_STRINGS Z_S_SIOOBE_FORMATTER f1468 hcs hfv (by decide) (by decide) (own_rt p1 ci0)) hZ1461 (tw175 hw) (tw2 hw) (by decide) (by decide)) (g := (mkF m 74 #[vi p1, vi p2, vi p3, .val cv3, .val cv0, vr uu112, vr uu115, vr b1437, vr uu117, .val cv4] [(.int p2), (.int p1), cv3, cv4, cv0, (.ref uu117)])) rfl (by rw [hml]; rfl) (argsL := [(.ref uu117), cv0, cv4, cv3, (.int p1), (.int p2)]) (rest := []) (lenOf pd_24 rfl) rfl (Nat.le_of_eq rfl) (hb hby at_74) (fun _ _ => ⟨rfl, eq1470, (by decide : 16 + 0 ≤ _), (by decide : 72 + 0 ≤ _)⟩)
      dsimp only [Pt.U, Pt.locs, Pt.cells, Pt.slots] at X1472 l1472 y1472 z1472 st1472 hQ1472
      subst l1472 y1472 z1472
      obtain ⟨rfl, N1472q, eq1472⟩ := hQ1472
      have N1473 := Fr.app N1471 N1472q
      refine GoH.step (fun _ k => st1472 _ (XS.ifNo X1472.here hx rfl (hb hby at_77) rfl ((if0 _ _).trans (feq (by decide)).1) (XS.aload X1472.here hx rfl (hb hby at_80) rfl rfl (XS.iconst X1472.here hx rfl (hb hby at_82) (XS.iload X1472.here hx rfl (hb hby at_83) rfl (XS.iloadN X1472.here hx rfl (hb hby at_85) rfl (XS.iloadN X1472.here hx rfl (hb hby at_86) rfl (XS.iloadN X1472.here hx rfl (hb hby at_87) rfl k)))))))) ?_
      show GoH p e below s _ _ _ T1472 (mkF m 88 #[vi p1, vi p2, vi p3, .val cv3, .val cv0, vr uu112, vr uu115, vr b1437, vr uu117, .val cv4] [(.int p2), (.int p1), cv3, cv4, cv1, (.ref uu117)])
      obtain ⟨_, _, ⟨T1474, L1474, k1474, n1474⟩, -, X1474, ⟨Lc1474, hQ1474, l1474, y1474, z1474⟩, st1474⟩ := Jvm.LawKit.callS X1472 hx (y := xm36) hown1461 (mvT hZ1461 (tw173 hw)) (mvT hZ1461 (tw174 hw)) (mvT hZ1461 (tw2 hw)) (mvT hZ1461 (tw175 hw)) (by decide) (backOf (W := 0) (rm_ObjectRefToStringPinLaw_ok_3 l Z a0 hw [] uu117 ci1 ci4 ci3 p1 p2 uu118 uu119 ci4 ([(.int (nar .byte ((nar .char (own_ch p1 ci0)).toInt8.toInt32))), (.int (nar .byte ((nar .char (own_ch p1 ci1)).toInt8.toInt32))), (.int (nar .byte ((nar .char (own_ch p1 ci2)).toInt8.toInt32))), cv58]) (nar .byte ((nar .char (own_ch p1 ci1)).toInt8.toInt32)) cs fv T1461.heap n0 f1469 (by decide) (by decide) P1461_1 P1461_2 P1461_3 f1467 rfl Z_S_COMPACT_STRINGS Z_S_SIOOBE_FORMATTER f1468 hcs hfv (by decide) (by decide) (own_rt p1 ci1)) hZ1461 (tw175 hw) (tw2 hw) (by decide) (by decide)) (g := (mkF m 88 #[vi p1, vi p2, vi p3, .val cv3, .val cv0, vr uu112, vr uu115, vr b1437, vr uu117, .val cv4] [(.int p2), (.int p1), cv3, cv4, cv1, (.ref uu117)])) rfl (by rw [hml]; rfl) (argsL := [(.ref uu117), cv1, cv4, cv3, (.int p1), (.int p2)]) (rest := []) (lenOf pd_24 rfl) rfl (Nat.le_of_eq rfl) (hb hby at_88) (fun _ _ => ⟨rfl, eq1472, (by decide : 16 + 0 ≤ _), (by decide : 72 + 0 ≤ _)⟩)
      dsimp only [Pt.U, Pt.locs, Pt.cells, Pt.slots] at X1474 l1474 y1474 z1474 st1474 hQ1474
      subst l1474 y1474 z1474
      obtain ⟨rfl, N1474q, eq1474⟩ := hQ1474
      have N1475 := Fr.app N1473 N1474q
      refine GoH.step (fun _ k => st1474 _ (XS.ifNo X1474.here hx rfl (hb hby at_91) rfl ((if0 _ _).trans (feq (by decide)).1) (XS.aload X1474.here hx rfl (hb hby at_94) rfl rfl (XS.iconst X1474.here hx rfl (hb hby at_96) (XS.iload X1474.here hx rfl (hb hby at_97) rfl (XS.iloadN X1474.here hx rfl (hb hby at_99) rfl (XS.iloadN X1474.here hx rfl (hb hby at_100) rfl (XS.iloadN X1474.here hx rfl (hb hby at_101) rfl k)))))))) ?_
      show GoH p e below s _ _ _ T1474 (mkF m 102 #[vi p1, vi p2, vi p3, .val cv3, .val cv0, vr uu112, vr uu115, vr b1437, vr uu117, .val cv4] [(.int p2), (.int p1), cv3, cv4, cv2, (.ref uu117)])
      obtain ⟨_, _, ⟨T1476, L1476, k1476, n1476⟩, -, X1476, ⟨Lc1476, hQ1476, l1476, y1476, z1476⟩, st1476⟩ := Jvm.LawKit.callS X1474 hx (y := xm36) hown1461 (mvT hZ1461 (tw173 hw)) (mvT hZ1461 (tw174 hw)) (mvT hZ1461 (tw2 hw)) (mvT hZ1461 (tw175 hw)) (by decide) (backOf (W := 0) (rm_ObjectRefToStringPinLaw_ok_3 l Z a0 hw [] uu117 ci2 ci4 ci3 p1 p2 uu118 uu119 ci4 ([(.int (nar .byte ((nar .char (own_ch p1 ci0)).toInt8.toInt32))), (.int (nar .byte ((nar .char (own_ch p1 ci1)).toInt8.toInt32))), (.int (nar .byte ((nar .char (own_ch p1 ci2)).toInt8.toInt32))), cv58]) (nar .byte ((nar .char (own_ch p1 ci2)).toInt8.toInt32)) cs fv T1461.heap n0 f1469 (by decide) (by decide) P1461_1 P1461_2 P1461_3 f1467 rfl Z_S_COMPACT_STRINGS Z_S_SIOOBE_FORMATTER f1468 hcs hfv (by decide) (by decide) (own_rt p1 ci2)) hZ1461 (tw175 hw) (tw2 hw) (by decide) (by decide)) (g := (mkF m 102 #[vi p1, vi p2, vi p3, .val cv3, .val cv0, vr uu112, vr uu115, vr b1437, vr uu117, .val cv4] [(.int p2), (.int p1), cv3, cv4, cv2, (.ref uu117)])) rfl (by rw [hml]; rfl) (argsL := [(.ref uu117), cv2, cv4, cv3, (.int p1), (.int p2)]) (rest := []) (lenOf pd_24 rfl) rfl (Nat.le_of_eq rfl) (hb hby at_102) (fun _ _ => ⟨rfl, eq1474, (by decide : 16 + 0 ≤ _), (by decide : 72 + 0 ≤ _)⟩)
      dsimp only [Pt.U, Pt.locs, Pt.cells, Pt.slots] at X1476 l1476 y1476 z1476 st1476 hQ1476
      subst l1476 y1476 z1476
      obtain ⟨rfl, N1476q, eq1476⟩ := hQ1476
      have N1477 := Fr.app N1475 N1476q
      refine GoH.step (fun _ k => st1476 _ (XS.ifNo X1476.here hx rfl (hb hby at_105) rfl ((if0 _ _).trans (feq (by decide)).1) (XS.aload X1476.here hx rfl (hb hby at_108) rfl rfl (XS.iconst X1476.here hx rfl (hb hby at_110) (XS.iload X1476.here hx rfl (hb hby at_111) rfl (XS.iloadN X1476.here hx rfl (hb hby at_113) rfl (XS.iloadN X1476.here hx rfl (hb hby at_114) rfl (XS.iloadN X1476.here hx rfl (hb hby at_115) rfl k)))))))) ?_
      show GoH p e below s _ _ _ T1476 (mkF m 116 #[vi p1, vi p2, vi p3, .val cv3, .val cv0, vr uu112, vr uu115, vr b1437, vr uu117, .val cv4] [(.int p2), (.int p1), cv3, cv4, cv3, (.ref uu117)])
      obtain ⟨_, _, ⟨T1478, L1478, k1478, n1478⟩, -, X1478, ⟨Lc1478, hQ1478, l1478, y1478, z1478⟩, st1478⟩ := Jvm.LawKit.callS X1476 hx (y := xm36) hown1461 (mvT hZ1461 (tw173 hw)) (mvT hZ1461 (tw174 hw)) (mvT hZ1461 (tw2 hw)) (mvT hZ1461 (tw175 hw)) (by decide) (backOf (W := 0) (rm_ObjectRefToStringPinLaw_ok_0 l Z a0 hw [] uu117 ci3 ci4 ci3 p1 p2 cs uu118 uu119 ci4 ([(.int (nar .byte ((nar .char (own_ch p1 ci0)).toInt8.toInt32))), (.int (nar .byte ((nar .char (own_ch p1 ci1)).toInt8.toInt32))), (.int (nar .byte ((nar .char (own_ch p1 ci2)).toInt8.toInt32))), cv58]) fv ci58 T1461.heap n0 f1469 (by decide) (by decide) rfl P1461_1 Z_S_COMPACT_STRINGS f1468 hcs P1461_2 P1461_3 f1467 Z_S_SIOOBE_FORMATTER hfv rfl (by decide) (by decide) (by decide)) hZ1461 (tw175 hw) (tw2 hw) (by decide) (by decide)) (g := (mkF m 116 #[vi p1, vi p2, vi p3, .val cv3, .val cv0, vr uu112, vr uu115, vr b1437, vr uu117, .val cv4] [(.int p2), (.int p1), cv3, cv4, cv3, (.ref uu117)])) rfl (by rw [hml]; rfl) (argsL := [(.ref uu117), cv3, cv4, cv3, (.int p1), (.int p2)]) (rest := []) (lenOf pd_24 rfl) rfl (Nat.le_of_eq rfl) (hb hby at_116) (fun _ _ => ⟨rfl, eq1476, (by decide : 16 + 0 ≤ _), (by decide : 72 + 0 ≤ _)⟩)
      dsimp only [Pt.U, Pt.locs, Pt.cells, Pt.slots] at X1478 l1478 y1478 z1478 st1478 hQ1478
      subst l1478 y1478 z1478
      obtain ⟨rfl, N1478q, eq1478⟩ := hQ1478
      have N1479 := Fr.app N1477 N1478q
      refine GoH.step (fun _ k => st1478 _ (XS.ifNo X1478.here hx rfl (hb hby at_119) rfl ((if0 _ _).trans (feq (by decide)).1) (XS.aload X1478.here hx rfl (hb hby at_122) rfl rfl (XS.iconst X1478.here hx rfl (hb hby at_124) (XS.iload X1478.here hx rfl (hb hby at_125) rfl (XS.iloadN X1478.here hx rfl (hb hby at_127) rfl (XS.iloadN X1478.here hx rfl (hb hby at_128) rfl (XS.iloadN X1478.here hx rfl (hb hby at_129) rfl k)))))))) ?_
      show GoH p e below s _ _ _ T1478 (mkF m 130 #[vi p1, vi p2, vi p3, .val cv3, .val cv0, vr uu112, vr uu115, vr b1437, vr uu117, .val cv4] [(.int p2), (.int p1), cv3, cv4, cv4, (.ref uu117)])
      obtain ⟨_, _, ⟨T1480, L1480, k1480, n1480⟩, -, X1480, ⟨Lc1480, hQ1480, l1480, y1480, z1480⟩, st1480⟩ := Jvm.LawKit.callS X1478 hx (y := xm36) hown1461 (mvT hZ1461 (tw173 hw)) (mvT hZ1461 (tw174 hw)) (mvT hZ1461 (tw2 hw)) (mvT hZ1461 (tw175 hw)) (by decide) (backOf (W := 0) (rm_ObjectRefToStringPinLaw_ok_1 l Z a0 hw [] uu117 ci4 ci4 ci3 p1 p2 T1461.heap n0 f1469 (by decide)) hZ1461 (tw175 hw) (tw2 hw) (by decide) (by decide)) (g := (mkF m 130 #[vi p1, vi p2, vi p3, .val cv3, .val cv0, vr uu112, vr uu115, vr b1437, vr uu117, .val cv4] [(.int p2), (.int p1), cv3, cv4, cv4, (.ref uu117)])) rfl (by rw [hml]; rfl) (argsL := [(.ref uu117), cv4, cv4, cv3, (.int p1), (.int p2)]) (rest := []) (lenOf pd_24 rfl) rfl (Nat.le_of_eq rfl) (hb hby at_130) (fun _ _ => ⟨rfl, eq1478, (by decide : 16 + 0 ≤ _), (by decide : 72 + 0 ≤ _)⟩)
      dsimp only [Pt.U, Pt.locs, Pt.cells, Pt.slots] at X1480 l1480 y1480 z1480 st1480 hQ1480
      subst l1480 y1480 z1480
      obtain ⟨rfl, N1480q, eq1480⟩ := hQ1480
      have N1481 := Fr.app N1479 N1480q
      refine GoH.step (fun _ k => st1480 _ (XS.ifNo X1480.here hx rfl (hb hby at_133) rfl ((if0 _ _).trans (feq (by decide)).1) (XS.aload X1480.here hx rfl (hb hby at_136) rfl rfl (XS.iconst X1480.here hx rfl (hb hby at_138) (XS.iload X1480.here hx rfl (hb hby at_139) rfl (XS.iloadN X1480.here hx rfl (hb hby at_141) rfl (XS.iloadN X1480.here hx rfl (hb hby at_142) rfl (XS.iloadN X1480.here hx rfl (hb hby at_143) rfl k)))))))) ?_
      show GoH p e below s _ _ _ T1480 (mkF m 144 #[vi p1, vi p2, vi p3, .val cv3, .val cv0, vr uu112, vr uu115, vr b1437, vr uu117, .val cv4] [(.int p2), (.int p1), cv3, cv4, cv5, (.ref uu117)])
      obtain ⟨_, _, ⟨T1482, L1482, k1482, n1482⟩, -, X1482, ⟨Lc1482, hQ1482, l1482, y1482, z1482⟩, st1482⟩ := Jvm.LawKit.callS X1480 hx (y := xm36) hown1461 (mvT hZ1461 (tw173 hw)) (mvT hZ1461 (tw174 hw)) (mvT hZ1461 (tw2 hw)) (mvT hZ1461 (tw175 hw)) (by decide) (backOf (W := 0) (rm_ObjectRefToStringPinLaw_ok_1 l Z a0 hw [] uu117 ci5 ci4 ci3 p1 p2 T1461.heap n0 f1469 (by decide)) hZ1461 (tw175 hw) (tw2 hw) (by decide) (by decide)) (g := (mkF m 144 #[vi p1, vi p2, vi p3, .val cv3, .val cv0, vr uu112, vr uu115, vr b1437, vr uu117, .val cv4] [(.int p2), (.int p1), cv3, cv4, cv5, (.ref uu117)])) rfl (by rw [hml]; rfl) (argsL := [(.ref uu117), cv5, cv4, cv3, (.int p1), (.int p2)]) (rest := []) (lenOf pd_24 rfl) rfl (Nat.le_of_eq rfl) (hb hby at_144) (fun _ _ => ⟨rfl, eq1480, (by decide : 16 + 0 ≤ _), (by decide : 72 + 0 ≤ _)⟩)
      dsimp only [Pt.U, Pt.locs, Pt.cells, Pt.slots] at X1482 l1482 y1482 z1482 st1482 hQ1482
      subst l1482 y1482 z1482
      obtain ⟨rfl, N1482q, eq1482⟩ := hQ1482
      have N1483 := Fr.app N1481 N1482q
      refine GoH.step (fun _ k => st1482 _ (XS.ifNo X1482.here hx rfl (hb hby at_147) rfl ((if0 _ _).trans (feq (by decide)).1) (XS.aload X1482.here hx rfl (hb hby at_150) rfl rfl (XS.bipush X1482.here hx rfl (hb hby at_152) (XS.iload X1482.here hx rfl (hb hby at_154) rfl (XS.iloadN X1482.here hx rfl (hb hby at_156) rfl (XS.iloadN X1482.here hx rfl (hb hby at_157) rfl (XS.iloadN X1482.here hx rfl (hb hby at_158) rfl k)))))))) ?_
      show GoH p e below s _ _ _ T1482 (mkF m 159 #[vi p1, vi p2, vi p3, .val cv3, .val cv0, vr uu112, vr uu115, vr b1437, vr uu117, .val cv4] [(.int p2), (.int p1), cv3, cv4, cv6, (.ref uu117)])
      obtain ⟨_, _, ⟨T1484, L1484, k1484, n1484⟩, -, X1484, ⟨Lc1484, hQ1484, l1484, y1484, z1484⟩, st1484⟩ := Jvm.LawKit.callS X1482 hx (y := xm36) hown1461 (mvT hZ1461 (tw173 hw)) (mvT hZ1461 (tw174 hw)) (mvT hZ1461 (tw2 hw)) (mvT hZ1461 (tw175 hw)) (by decide) (backOf (W := 0) (rm_ObjectRefToStringPinLaw_ok_1 l Z a0 hw [] uu117 ci6 ci4 ci3 p1 p2 T1461.heap n0 f1469 (by decide)) hZ1461 (tw175 hw) (tw2 hw) (by decide) (by decide)) (g := (mkF m 159 #[vi p1, vi p2, vi p3, .val cv3, .val cv0, vr uu112, vr uu115, vr b1437, vr uu117, .val cv4] [(.int p2), (.int p1), cv3, cv4, cv6, (.ref uu117)])) rfl (by rw [hml]; rfl) (argsL := [(.ref uu117), cv6, cv4, cv3, (.int p1), (.int p2)]) (rest := []) (lenOf pd_24 rfl) rfl (Nat.le_of_eq rfl) (hb hby at_159) (fun _ _ => ⟨rfl, eq1482, (by decide : 16 + 0 ≤ _), (by decide : 72 + 0 ≤ _)⟩)
      dsimp only [Pt.U, Pt.locs, Pt.cells, Pt.slots] at X1484 l1484 y1484 z1484 st1484 hQ1484
      subst l1484 y1484 z1484
      obtain ⟨rfl, N1484q, eq1484⟩ := hQ1484
      have N1485 := Fr.app N1483 N1484q
      refine GoH.step (fun _ k => st1484 _ (XS.ifNo X1484.here hx rfl (hb hby at_162) rfl ((if0 _ _).trans (feq (by decide)).1) (XS.iconst X1484.here hx rfl (hb hby at_165) (XS.goto X1484.here hx rfl (pc0 := 166) (pc' := 170) rfl (hb hby at_166) (by decide) (by decide) k)))) ?_
      show GoH p e below s _ _ _ T1484 (mkF m 170 #[vi p1, vi p2, vi p3, .val cv3, .val cv0, vr uu112, vr uu115, vr b1437, vr uu117, .val cv4] [cv1])
      exact GoH.retN X1484 hS1461 hx hlk (t := .boolean) Bd.returns (by simp) (hb hby at_170) eq1484 (Nat.le_refl _) ⟨rfl, N1485⟩ (f1466.trans (CHv.at X1484 hZ1461 (own_EW hw) f1466.1)) (by decide) (by decide)
    · show GoH p e below s _ _ _ T1430 (mkF m 21 #[vi p1, vi p2, vi p3, .val cv3, .val cv1, vr uu112, .unset, .unset, .unset, .unset] [cv1, (.int p2)])
      have f1486 := (O0.keep K1430 all0)
      have f1487 := (Nat.le_trans Z0 K1430.1)
      obtain ⟨_, _, ⟨T1488, L1488, k1488, n1488⟩, -, X1488s, hs1488, hg1488, ⟨Lc1488, hQ1488, l1488, y1488, z1488, ch1488⟩, st1488⟩ := callSS X1430 hx (y := xm33) hown1430 (mvT hZ1430 (tw0 hw)) (mvT hZ1430 (tw1 hw)) (mvT hZ1430 (tw2 hw)) (mvT hZ1430 (tw3 hw)) (by decide) (backOfSH (W := 0) (rm_ObjectRefToStringPinLaw_make_1 l Z a0 hw [] p2 cs T1430.heap n0 f1487 Z_S_COMPACT_STRINGS f1486 hcs (own_c2 p2 ci0)) hZ1430 (tw3 hw) (tw2 hw) (by decide) (by decide) (own_EW hw) f1432.1) (g := (mkF m 21 #[vi p1, vi p2, vi p3, .val cv3, .val cv1, vr uu112, .unset, .unset, .unset, .unset] [cv1, (.int p2)])) rfl (by rw [hml]; rfl) (argsL := [(.int p2), cv1]) (rest := []) (lenOf pd_3 rfl) rfl (Nat.le_of_eq rfl) (hb hby at_21) (fun _ _ => ⟨rfl, rfl, (by decide : 3 + 3 ≤ _), (by decide : 10 + 6 ≤ _)⟩)
      dsimp only [Pt.U, Pt.locs, Pt.cells, Pt.slots] at X1488s hs1488 hg1488 l1488 y1488 z1488 st1488 hQ1488 ch1488
      subst l1488 y1488 z1488
      obtain ⟨X1488, hS1488, hZ1488, hown1488⟩ := rebS hS1430 (by exact (Nat.le_refl _)) X1488s hs1488 hg1488 hZ1430 hown1430
      obtain ⟨uu120, uu121, uu122, rfl, N1488q, K1488, P1488_0, P1488_1, P1488_2, P1488_3, P1488_4, P1488_5, P1488_6⟩ := hQ1488
      have N1489 := Fr.app N1431 N1488q
      have f1490 := f1432.trans ch1488
      refine GoH.step (fun _ k => st1488.trans (XS.astore X1488.here hx rfl (hb hby at_24) rfl rfl (l' := #[vi p1, vi p2, vi p3, .val cv3, .val cv1, vr uu112, vr uu120, .unset, .unset, .unset]) rfl k)) ?_
      show GoH p e below s _ _ _ T1488 (mkF m 26 #[vi p1, vi p2, vi p3, .val cv3, .val cv1, vr uu112, vr uu120, .unset, .unset, .unset] [])
      obtain ⟨T1491, h1491, X1491, e1491, E1491, A1491, D1491, -, st1491⟩ := newO X1488 hx hZ1488 hown1488 (tw40 hw) (tw41 hw) (tw42 hw) rfl (g := (mkF m 26 #[vi p1, vi p2, vi p3, .val cv3, .val cv1, vr uu112, vr uu120, .unset, .unset, .unset] [])) rfl (hb hby at_26) (by decide) (by decide)
      obtain ⟨b1491, g1491⟩ : ∃ z, z = T1488.heap.size := ⟨_, rfl⟩
      rw [← g1491] at A1491 D1491 st1491
      have f1492 : Fld Z h1491 b1491 xs3 "type" xs21 .null := D1491 (Or.inr (tw53 hw)) (ty := (.object xs25)) (by decide)
      have f1493 : Fld Z h1491 b1491 xs3 "id" xs21 .null := D1491 (Or.inr (tw55 hw)) (ty := (.object xs25)) (by decide)
      refine GoH.step (fun _ k => st1491 _ (XS.dup X1491.here hx rfl (hb hby at_29) rfl rfl (XS.aload X1491.here hx rfl (hb hby at_30) rfl rfl (XS.aload X1491.here hx rfl (hb hby at_32) rfl rfl k)))) ?_
      show GoH p e below s _ _ _ T1491 (mkF m 34 #[vi p1, vi p2, vi p3, .val cv3, .val cv1, vr uu112, vr uu120, .unset, .unset, .unset] [(.ref uu120), (.ref uu112), (.ref b1491), (.ref b1491)])
      have f1494 := (Nat.le_trans (Nat.le_trans f1487 K1488.1) E1491.1)
      have f1495 := (Nat.le_trans f1487 K1488.1)
      have g1496 := Nat.le_trans f1495 (Nat.le_of_eq g1491.symm)
      obtain ⟨_, _, ⟨T1497, L1497, k1497, n1497⟩, -, X1497, ⟨Lc1497, hQ1497, l1497, y1497, z1497⟩, st1497⟩ := X1491.specialBack hx (y := xm31) rfl hown1488 (mvT hZ1488 (tw43 hw)) (mvT hZ1488 (tw44 hw)) (mvT hZ1488 (tw45 hw)) (by decide) (backOf (W := 1) (rm_ObjectRef_new_0 l Z a0 hw [] b1491 uu112 uu120 h1491 n0 f1494 A1491 f1492 g1496 f1493) hZ1488 (tw45 hw) (tw42 hw) (by decide) (by decide)) (g := (mkF m 34 #[vi p1, vi p2, vi p3, .val cv3, .val cv1, vr uu112, vr uu120, .unset, .unset, .unset] [(.ref uu120), (.ref uu112), (.ref b1491), (.ref b1491)])) rfl (by rw [hml]; rfl) (Steps.refl _) (a := b1491) (argsL := [(.ref uu112), (.ref uu120)]) (rest := [(.ref b1491)]) (lenOf pd_5 rfl) rfl (Nat.le_of_eq rfl) (hb hby at_34) (fun _ _ => ⟨rfl, e1491, (by decide : 7 + 0 ≤ _), (by decide : 18 + 0 ≤ _)⟩)
      dsimp only [Pt.U, Pt.locs, Pt.cells, Pt.slots] at X1497 l1497 y1497 z1497 st1497 hQ1497
      subst l1497 y1497 z1497
      obtain ⟨rfl, N1497q, K1497, P1497_0, P1497_1⟩ := hQ1497
      have N1498 := Fr.app N1489 N1497q
      refine GoH.step (fun _ k => st1497.trans (XS.astore X1497.here hx rfl (hb hby at_37) rfl rfl (l' := #[vi p1, vi p2, vi p3, .val cv3, .val cv1, vr uu112, vr uu120, vr b1491, .unset, .unset]) rfl (XS.aload X1497.here hx rfl (hb hby at_39) rfl rfl k))) ?_
      show GoH p e below s _ _ _ T1497 (mkF m 41 #[vi p1, vi p2, vi p3, .val cv3, .val cv1, vr uu112, vr uu120, vr b1491, .unset, .unset] [(.ref b1491)])
      have f1499 := (((f1486.keep K1488 all0).ext E1491).keep K1497 (allS g1496 all0))
      have f1500 := (Nat.le_trans f1494 K1497.1)
      have f1501 := (((P1430_1.keep K1488).ext E1491).keep K1497)
      have f1502 := (P1430_1.keep K1488)
      have ne1503 : uu112 ≠ b1491 := Nat.ne_of_lt (Nat.lt_of_lt_of_le f1502.lt (Nat.le_of_eq g1491.symm))
      have f1504 := (((P1430_3.keep K1488 nin0).ext E1491).keep K1497 (ninS ne1503 nin0))
      have f1505 := (P1430_5.keep K1488 nin0)
      have ne1506 : uu113 ≠ b1491 := Nat.ne_of_lt (Nat.lt_of_lt_of_le f1505.lt (Nat.le_of_eq g1491.symm))
      have f1507 := (((P1430_5.keep K1488 nin0).ext E1491).keep K1497 (ninS ne1506 nin0))
      have f1508 := (((P1430_2.keep K1488 nin0).ext E1491).keep K1497 (ninS ne1503 nin0))
      have f1509 := ((P1488_1.ext E1491).keep K1497)
      have ne1510 : uu120 ≠ b1491 := Nat.ne_of_lt (Nat.lt_of_lt_of_le P1488_1.lt (Nat.le_of_eq g1491.symm))
      have f1511 := ((P1488_3.ext E1491).keep K1497 (ninS ne1510 nin0))
      have ne1512 : uu121 ≠ b1491 := Nat.ne_of_lt (Nat.lt_of_lt_of_le P1488_5.lt (Nat.le_of_eq g1491.symm))
      have f1513 := ((P1488_5.ext E1491).keep K1497 (ninS ne1512 nin0))
      have f1514 := ((P1488_2.ext E1491).keep K1497 (ninS ne1510 nin0))
      have f1516 := (own_chK (own_chE f1490 E1491) K1497 (sfS (Safe.exa hZ1488.alike A1491 (by decide) (by decide)) sf0))
      have f1517 := (A1491.keep K1497)
      obtain ⟨cq1515, kq1515, q1515a, q1515b, q1515c⟩ := isOf hZ1488 rfl f1517
      obtain ⟨_, _, ⟨T1515, L1515, k1515, n1515⟩, -, X1515s, hs1515, hg1515, ⟨Lc1515, hQ1515, l1515, y1515, z1515, ch1515⟩, st1515⟩ := X1497.virtualBackS hx (y := xm21) (z := xm21) hown1488 (mvT hZ1488 (tw56 hw)) (mvT hZ1488 (tw57 hw)) (notFace_of_selects (args := #[]) (mvT hZ1488 (tw59 hw))) (mvT hZ1488 (tw59 hw)) (mvT hZ1488 (tw58 hw)) (by decide) (backOfSH (W := 0) (rm_ObjectRef_toString_0 l Z a0 hw [] b1491 cs uu112 uu113 uu114 ci3 ([(.int (nar .byte ((nar .char (own_ch p1 ci0)).toInt8.toInt32))), (.int (nar .byte ((nar .char (own_ch p1 ci1)).toInt8.toInt32))), (.int (nar .byte ((nar .char (own_ch p1 ci2)).toInt8.toInt32)))]) uu120 uu121 uu122 ci1 ([(.int (nar .byte ((nar .char (own_ch p2 ci0)).toInt8.toInt32)))]) T1497.heap n0 f1500 Z_S_COMPACT_STRINGS f1499 hcs P1497_0 f1501 f1504 f1507 f1508 (by decide) (by decide) (Nat.le_of_ble_eq_true rfl) (Nat.le_of_ble_eq_true rfl) (Nat.le_of_ble_eq_true rfl) (by decide) (by decide) (Nat.le_of_ble_eq_true rfl) (Nat.le_of_ble_eq_true rfl) P1497_1 f1509 f1511 f1513 f1514 (by decide) (by decide) (by decide) (Nat.le_of_ble_eq_true rfl) (Nat.le_of_ble_eq_true rfl) (Nat.le_of_ble_eq_true rfl) (by decide) (by decide) (by decide) (Nat.le_of_ble_eq_true rfl) (by decide) (Nat.le_of_ble_eq_true rfl) (Nat.le_of_ble_eq_true rfl) (Nat.le_of_ble_eq_true rfl)) hZ1488 (tw60 hw) (tw42 hw) (by decide) (by decide) (own_EW hw) f1516.1) q1515a q1515c (g := (mkF m 41 #[vi p1, vi p2, vi p3, .val cv3, .val cv1, vr uu112, vr uu120, vr b1491, .unset, .unset] [(.ref b1491)])) rfl (by rw [hml]; rfl) (Steps.refl _) (argsL := []) (rest := []) (lenOf pd_21 rfl) rfl (Nat.le_of_eq rfl) (hb hby at_41) (fun _ _ => ⟨rfl, rfl, (by decide : 7 + 6 ≤ _), (by decide : 18 + 48 ≤ _)⟩)
      dsimp only [Pt.U, Pt.locs, Pt.cells, Pt.slots] at X1515s hs1515 hg1515 l1515 y1515 z1515 st1515 hQ1515 ch1515
      subst l1515 y1515 z1515
      have f1518 := (Nat.le_trans (Nat.le_trans (Nat.le_refl _) E1491.1) K1497.1)
      obtain ⟨X1515, hS1515, hZ1515, hown1515⟩ := rebS hS1488 (by exact f1518) X1515s hs1515 hg1515 hZ1488 hown1488
      obtain ⟨uu123, uu124, uu125, rfl, N1515q, K1515, P1515_0, P1515_1, P1515_2, P1515_3, P1515_4, P1515_5, P1515_6⟩ := hQ1515
      have N1519 := Fr.app N1498 N1515q
      have f1520 := f1516.trans ch1515
      refine GoH.step (fun _ k => st1515.trans k) ?_
      show GoH p e below s _ _ _ T1515 (mkF m 44 #[vi p1, vi p2, vi p3, .val cv3, .val cv1, vr uu112, vr uu120, vr b1491, .unset, .unset] [(.ref uu123)])
      have f1521 : Arv Z T1515.heap uu124 uu125 .byte ci5 [(.int (nar .byte ((nar .char (own_ch p1 ci0)).toInt8.toInt32))), (.int (nar .byte ((nar .char (own_ch p1 ci1)).toInt8.toInt32))), (.int (nar .byte ((nar .char (own_ch p1 ci2)).toInt8.toInt32))), cv58, (.int (nar .byte ((nar .char (own_ch p2 ci0)).toInt8.toInt32)))] cv0 := P1515_5
      refine GoH.step (fun _ k => XS.astore X1515.here hx rfl (hb hby at_44) rfl rfl (l' := #[vi p1, vi p2, vi p3, .val cv3, .val cv1, vr uu112, vr uu120, vr b1491, vr uu123, .unset]) rfl (XS.iloadN X1515.here hx rfl (hb hby at_46) rfl (XS.iconst X1515.here hx rfl (hb hby at_47) (XS.iadd X1515.here hx rfl (hb hby at_48) rfl (XS.iload X1515.here hx rfl (hb hby at_49) rfl (XS.iadd X1515.here hx rfl (hb hby at_51) rfl (XS.istore X1515.here hx rfl (hb hby at_52) rfl (l' := #[vi p1, vi p2, vi p3, .val cv3, .val cv1, vr uu112, vr uu120, vr b1491, vr uu123, .val cv5]) rfl (XS.aload X1515.here hx rfl (hb hby at_54) rfl rfl k)))))))) ?_
      show GoH p e below s _ _ _ T1515 (mkF m 56 #[vi p1, vi p2, vi p3, .val cv3, .val cv1, vr uu112, vr uu120, vr b1491, vr uu123, .val cv5] [(.ref uu123)])
      have f1522 := (f1499.keep K1515 all0)
      have f1523 := (Nat.le_trans f1500 K1515.1)
      obtain ⟨cq1524, kq1524, q1524a, q1524b, q1524c⟩ := isOf hZ1515 rfl P1515_1
      obtain ⟨_, _, ⟨T1524, L1524, k1524, n1524⟩, -, X1524, ⟨Lc1524, hQ1524, l1524, y1524, z1524⟩, st1524⟩ := X1515.virtualBack hx (y := xm19) (z := xm19) hown1515 (mvT hZ1515 (tw172 hw)) (mvT hZ1515 (tw90 hw)) (notFace_of_selects (args := #[]) (mvT hZ1515 (tw92 hw))) (mvT hZ1515 (tw92 hw)) (mvT hZ1515 (tw91 hw)) (by decide) (backOf (W := 0) (rm_String_length_0 l Z a0 hw [] uu123 uu124 uu125 ci5 ([(.int (nar .byte ((nar .char (own_ch p1 ci0)).toInt8.toInt32))), (.int (nar .byte ((nar .char (own_ch p1 ci1)).toInt8.toInt32))), (.int (nar .byte ((nar .char (own_ch p1 ci2)).toInt8.toInt32))), cv58, (.int (nar .byte ((nar .char (own_ch p2 ci0)).toInt8.toInt32)))]) cs T1515.heap n0 f1523 P1515_3 f1521 P1515_1 Z_S_COMPACT_STRINGS f1522 hcs P1515_2) hZ1515 (tw93 hw) (tw6 hw) (by decide) (by decide)) q1524a q1524c (g := (mkF m 56 #[vi p1, vi p2, vi p3, .val cv3, .val cv1, vr uu112, vr uu120, vr b1491, vr uu123, .val cv5] [(.ref uu123)])) rfl (by rw [hml]; rfl) (Steps.refl _) (argsL := []) (rest := []) (lenOf pd_8 rfl) rfl (Nat.le_of_eq rfl) (hb hby at_56) (fun _ _ => ⟨rfl, rfl, (by decide : 13 + 0 ≤ _), (by decide : 66 + 0 ≤ _)⟩)
      dsimp only [Pt.U, Pt.locs, Pt.cells, Pt.slots] at X1524 l1524 y1524 z1524 st1524 hQ1524
      subst l1524 y1524 z1524
      obtain ⟨rfl, N1524q, eq1524⟩ := hQ1524
      have N1525 := Fr.app N1519 N1524q
      refine GoH.step (fun _ k => st1524.trans (XS.iload X1524.here hx rfl (hb hby at_59) rfl (XS.icmpYes X1524.here hx rfl (pc0 := 61) (pc' := 66) rfl (hb hby at_61) rfl (teq (by decide)).1 (by decide) (by decide) (XS.aload X1524.here hx rfl (hb hby at_66) rfl rfl (XS.iconst X1524.here hx rfl (hb hby at_68) (XS.iload X1524.here hx rfl (hb hby at_69) rfl (XS.iloadN X1524.here hx rfl (hb hby at_71) rfl (XS.iloadN X1524.here hx rfl (hb hby at_72) rfl (XS.iloadN X1524.here hx rfl (hb hby at_73) rfl k))))))))) ?_
      show GoH p e below s _ _ _ T1524 (mkF m 74 #[vi p1, vi p2, vi p3, .val cv3, .val cv1, vr uu112, vr uu120, vr b1491, vr uu123, .val cv5] [(.int p2), (.int p1), cv3, cv5, cv0, (.ref uu123)])
      obtain ⟨_, _, ⟨T1526, L1526, k1526, n1526⟩, -, X1526, ⟨Lc1526, hQ1526, l1526, y1526, z1526⟩, st1526⟩ := Jvm.LawKit.callS X1524 hx (y := xm36) hown1515 (mvT hZ1515 (tw173 hw)) (mvT hZ1515 (tw174 hw)) (mvT hZ1515 (tw2 hw)) (mvT hZ1515 (tw175 hw)) (by decide) (backOf (W := 0) (rm_ObjectRefToStringPinLaw_ok_3 l Z a0 hw [] uu123 ci0 ci5 ci3 p1 p2 uu124 uu125 ci5 ([(.int (nar .byte ((nar .char (own_ch p1 ci0)).toInt8.toInt32))), (.int (nar .byte ((nar .char (own_ch p1 ci1)).toInt8.toInt32))), (.int (nar .byte ((nar .char (own_ch p1 ci2)).toInt8.toInt32))), cv58, (.int (nar .byte ((nar .char (own_ch p2 ci0)).toInt8.toInt32)))]) (nar .byte ((nar .char (own_ch p1 ci0)).toInt8.toInt32)) cs fv T1515.heap n0 f1523 (by decide) (by decide) P1515_1 P1515_2 P1515_3 f1521 rfl Z_S_COMPACT_STRINGS Z_S_SIOOBE_FORMATTER f1522 hcs hfv (by decide) (by decide) (own_rt p1 ci0)) hZ1515 (tw175 hw) (tw2 hw) (by decide) (by decide)) (g := (mkF m 74 #[vi p1, vi p2, vi p3, .val cv3, .val cv1, vr uu112, vr uu120, vr b1491, vr uu123, .val cv5] [(.int p2), (.int p1), cv3, cv5, cv0, (.ref uu123)])) rfl (by rw [hml]; rfl) (argsL := [(.ref uu123), cv0, cv5, cv3, (.int p1), (.int p2)]) (rest := []) (lenOf pd_24 rfl) rfl (Nat.le_of_eq rfl) (hb hby at_74) (fun _ _ => ⟨rfl, eq1524, (by decide : 13 + 0 ≤ _), (by decide : 66 + 0 ≤ _)⟩)
      dsimp only [Pt.U, Pt.locs, Pt.cells, Pt.slots] at X1526 l1526 y1526 z1526 st1526 hQ1526
      subst l1526 y1526 z1526
      obtain ⟨rfl, N1526q, eq1526⟩ := hQ1526
      have N1527 := Fr.app N1525 N1526q
      refine GoH.step (fun _ k => st1526 _ (XS.ifNo X1526.here hx rfl (hb hby at_77) rfl ((if0 _ _).trans (feq (by decide)).1) (XS.aload X1526.here hx rfl (hb hby at_80) rfl rfl (XS.iconst X1526.here hx rfl (hb hby at_82) (XS.iload X1526.here hx rfl (hb hby at_83) rfl (XS.iloadN X1526.here hx rfl (hb hby at_85) rfl (XS.iloadN X1526.here hx rfl (hb hby at_86) rfl (XS.iloadN X1526.here hx rfl (hb hby at_87) rfl k)))))))) ?_
      show GoH p e below s _ _ _ T1526 (mkF m 88 #[vi p1, vi p2, vi p3, .val cv3, .val cv1, vr uu112, vr uu120, vr b1491, vr uu123, .val cv5] [(.int p2), (.int p1), cv3, cv5, cv1, (.ref uu123)])
      obtain ⟨_, _, ⟨T1528, L1528, k1528, n1528⟩, -, X1528, ⟨Lc1528, hQ1528, l1528, y1528, z1528⟩, st1528⟩ := Jvm.LawKit.callS X1526 hx (y := xm36) hown1515 (mvT hZ1515 (tw173 hw)) (mvT hZ1515 (tw174 hw)) (mvT hZ1515 (tw2 hw)) (mvT hZ1515 (tw175 hw)) (by decide) (backOf (W := 0) (rm_ObjectRefToStringPinLaw_ok_3 l Z a0 hw [] uu123 ci1 ci5 ci3 p1 p2 uu124 uu125 ci5 ([(.int (nar .byte ((nar .char (own_ch p1 ci0)).toInt8.toInt32))), (.int (nar .byte ((nar .char (own_ch p1 ci1)).toInt8.toInt32))), (.int (nar .byte ((nar .char (own_ch p1 ci2)).toInt8.toInt32))), cv58, (.int (nar .byte ((nar .char (own_ch p2 ci0)).toInt8.toInt32)))]) (nar .byte ((nar .char (own_ch p1 ci1)).toInt8.toInt32)) cs fv T1515.heap n0 f1523 (by decide) (by decide) P1515_1 P1515_2 P1515_3 f1521 rfl Z_S_COMPACT_STRINGS Z_S_SIOOBE_FORMATTER f1522 hcs hfv (by decide) (by decide) (own_rt p1 ci1)) hZ1515 (tw175 hw) (tw2 hw) (by decide) (by decide)) (g := (mkF m 88 #[vi p1, vi p2, vi p3, .val cv3, .val cv1, vr uu112, vr uu120, vr b1491, vr uu123, .val cv5] [(.int p2), (.int p1), cv3, cv5, cv1, (.ref uu123)])) rfl (by rw [hml]; rfl) (argsL := [(.ref uu123), cv1, cv5, cv3, (.int p1), (.int p2)]) (rest := []) (lenOf pd_24 rfl) rfl (Nat.le_of_eq rfl) (hb hby at_88) (fun _ _ => ⟨rfl, eq1526, (by decide : 13 + 0 ≤ _), (by decide : 66 + 0 ≤ _)⟩)
      dsimp only [Pt.U, Pt.locs, Pt.cells, Pt.slots] at X1528 l1528 y1528 z1528 st1528 hQ1528
      subst l1528 y1528 z1528
      obtain ⟨rfl, N1528q, eq1528⟩ := hQ1528
      have N1529 := Fr.app N1527 N1528q
      refine GoH.step (fun _ k => st1528 _ (XS.ifNo X1528.here hx rfl (hb hby at_91) rfl ((if0 _ _).trans (feq (by decide)).1) (XS.aload X1528.here hx rfl (hb hby at_94) rfl rfl (XS.iconst X1528.here hx rfl (hb hby at_96) (XS.iload X1528.here hx rfl (hb hby at_97) rfl (XS.iloadN X1528.here hx rfl (hb hby at_99) rfl (XS.iloadN X1528.here hx rfl (hb hby at_100) rfl (XS.iloadN X1528.here hx rfl (hb hby at_101) rfl k)))))))) ?_
      show GoH p e below s _ _ _ T1528 (mkF m 102 #[vi p1, vi p2, vi p3, .val cv3, .val cv1, vr uu112, vr uu120, vr b1491, vr uu123, .val cv5] [(.int p2), (.int p1), cv3, cv5, cv2, (.ref uu123)])
      obtain ⟨_, _, ⟨T1530, L1530, k1530, n1530⟩, -, X1530, ⟨Lc1530, hQ1530, l1530, y1530, z1530⟩, st1530⟩ := Jvm.LawKit.callS X1528 hx (y := xm36) hown1515 (mvT hZ1515 (tw173 hw)) (mvT hZ1515 (tw174 hw)) (mvT hZ1515 (tw2 hw)) (mvT hZ1515 (tw175 hw)) (by decide) (backOf (W := 0) (rm_ObjectRefToStringPinLaw_ok_3 l Z a0 hw [] uu123 ci2 ci5 ci3 p1 p2 uu124 uu125 ci5 ([(.int (nar .byte ((nar .char (own_ch p1 ci0)).toInt8.toInt32))), (.int (nar .byte ((nar .char (own_ch p1 ci1)).toInt8.toInt32))), (.int (nar .byte ((nar .char (own_ch p1 ci2)).toInt8.toInt32))), cv58, (.int (nar .byte ((nar .char (own_ch p2 ci0)).toInt8.toInt32)))]) (nar .byte ((nar .char (own_ch p1 ci2)).toInt8.toInt32)) cs fv T1515.heap n0 f1523 (by decide) (by decide) P1515_1 P1515_2 P1515_3 f1521 rfl Z_S_COMPACT_STRINGS Z_S_SIOOBE_FORMATTER f1522 hcs hfv (by decide) (by decide) (own_rt p1 ci2)) hZ1515 (tw175 hw) (tw2 hw) (by decide) (by decide)) (g := (mkF m 102 #[vi p1, vi p2, vi p3, .val cv3, .val cv1, vr uu112, vr uu120, vr b1491, vr uu123, .val cv5] [(.int p2), (.int p1), cv3, cv5, cv2, (.ref uu123)])) rfl (by rw [hml]; rfl) (argsL := [(.ref uu123), cv2, cv5, cv3, (.int p1), (.int p2)]) (rest := []) (lenOf pd_24 rfl) rfl (Nat.le_of_eq rfl) (hb hby at_102) (fun _ _ => ⟨rfl, eq1528, (by decide : 13 + 0 ≤ _), (by decide : 66 + 0 ≤ _)⟩)
      dsimp only [Pt.U, Pt.locs, Pt.cells, Pt.slots] at X1530 l1530 y1530 z1530 st1530 hQ1530
      subst l1530 y1530 z1530
      obtain ⟨rfl, N1530q, eq1530⟩ := hQ1530
      have N1531 := Fr.app N1529 N1530q
      refine GoH.step (fun _ k => st1530 _ (XS.ifNo X1530.here hx rfl (hb hby at_105) rfl ((if0 _ _).trans (feq (by decide)).1) (XS.aload X1530.here hx rfl (hb hby at_108) rfl rfl (XS.iconst X1530.here hx rfl (hb hby at_110) (XS.iload X1530.here hx rfl (hb hby at_111) rfl (XS.iloadN X1530.here hx rfl (hb hby at_113) rfl (XS.iloadN X1530.here hx rfl (hb hby at_114) rfl (XS.iloadN X1530.here hx rfl (hb hby at_115) rfl k)))))))) ?_
      show GoH p e below s _ _ _ T1530 (mkF m 116 #[vi p1, vi p2, vi p3, .val cv3, .val cv1, vr uu112, vr uu120, vr b1491, vr uu123, .val cv5] [(.int p2), (.int p1), cv3, cv5, cv3, (.ref uu123)])
      obtain ⟨_, _, ⟨T1532, L1532, k1532, n1532⟩, -, X1532, ⟨Lc1532, hQ1532, l1532, y1532, z1532⟩, st1532⟩ := Jvm.LawKit.callS X1530 hx (y := xm36) hown1515 (mvT hZ1515 (tw173 hw)) (mvT hZ1515 (tw174 hw)) (mvT hZ1515 (tw2 hw)) (mvT hZ1515 (tw175 hw)) (by decide) (backOf (W := 0) (rm_ObjectRefToStringPinLaw_ok_0 l Z a0 hw [] uu123 ci3 ci5 ci3 p1 p2 cs uu124 uu125 ci5 ([(.int (nar .byte ((nar .char (own_ch p1 ci0)).toInt8.toInt32))), (.int (nar .byte ((nar .char (own_ch p1 ci1)).toInt8.toInt32))), (.int (nar .byte ((nar .char (own_ch p1 ci2)).toInt8.toInt32))), cv58, (.int (nar .byte ((nar .char (own_ch p2 ci0)).toInt8.toInt32)))]) fv ci58 T1515.heap n0 f1523 (by decide) (by decide) rfl P1515_1 Z_S_COMPACT_STRINGS f1522 hcs P1515_2 P1515_3 f1521 Z_S_SIOOBE_FORMATTER hfv rfl (by decide) (by decide) (by decide)) hZ1515 (tw175 hw) (tw2 hw) (by decide) (by decide)) (g := (mkF m 116 #[vi p1, vi p2, vi p3, .val cv3, .val cv1, vr uu112, vr uu120, vr b1491, vr uu123, .val cv5] [(.int p2), (.int p1), cv3, cv5, cv3, (.ref uu123)])) rfl (by rw [hml]; rfl) (argsL := [(.ref uu123), cv3, cv5, cv3, (.int p1), (.int p2)]) (rest := []) (lenOf pd_24 rfl) rfl (Nat.le_of_eq rfl) (hb hby at_116) (fun _ _ => ⟨rfl, eq1530, (by decide : 13 + 0 ≤ _), (by decide : 66 + 0 ≤ _)⟩)
      dsimp only [Pt.U, Pt.locs, Pt.cells, Pt.slots] at X1532 l1532 y1532 z1532 st1532 hQ1532
      subst l1532 y1532 z1532
      obtain ⟨rfl, N1532q, eq1532⟩ := hQ1532
      have N1533 := Fr.app N1531 N1532q
      refine GoH.step (fun _ k => st1532 _ (XS.ifNo X1532.here hx rfl (hb hby at_119) rfl ((if0 _ _).trans (feq (by decide)).1) (XS.aload X1532.here hx rfl (hb hby at_122) rfl rfl (XS.iconst X1532.here hx rfl (hb hby at_124) (XS.iload X1532.here hx rfl (hb hby at_125) rfl (XS.iloadN X1532.here hx rfl (hb hby at_127) rfl (XS.iloadN X1532.here hx rfl (hb hby at_128) rfl (XS.iloadN X1532.here hx rfl (hb hby at_129) rfl k)))))))) ?_
      show GoH p e below s _ _ _ T1532 (mkF m 130 #[vi p1, vi p2, vi p3, .val cv3, .val cv1, vr uu112, vr uu120, vr b1491, vr uu123, .val cv5] [(.int p2), (.int p1), cv3, cv5, cv4, (.ref uu123)])
      obtain ⟨_, _, ⟨T1534, L1534, k1534, n1534⟩, -, X1534, ⟨Lc1534, hQ1534, l1534, y1534, z1534⟩, st1534⟩ := Jvm.LawKit.callS X1532 hx (y := xm36) hown1515 (mvT hZ1515 (tw173 hw)) (mvT hZ1515 (tw174 hw)) (mvT hZ1515 (tw2 hw)) (mvT hZ1515 (tw175 hw)) (by decide) (backOf (W := 0) (rm_ObjectRefToStringPinLaw_ok_2 l Z a0 hw [] uu123 ci4 ci5 ci3 p1 p2 uu124 uu125 ci5 ([(.int (nar .byte ((nar .char (own_ch p1 ci0)).toInt8.toInt32))), (.int (nar .byte ((nar .char (own_ch p1 ci1)).toInt8.toInt32))), (.int (nar .byte ((nar .char (own_ch p1 ci2)).toInt8.toInt32))), cv58, (.int (nar .byte ((nar .char (own_ch p2 ci0)).toInt8.toInt32)))]) (nar .byte ((nar .char (own_ch p2 ci0)).toInt8.toInt32)) cs fv T1515.heap n0 f1523 (by decide) (by decide) (by decide) P1515_1 P1515_2 P1515_3 f1521 rfl Z_S_COMPACT_STRINGS Z_S_SIOOBE_FORMATTER f1522 hcs hfv (by decide) (by decide) (own_rt p2 ci0)) hZ1515 (tw175 hw) (tw2 hw) (by decide) (by decide)) (g := (mkF m 130 #[vi p1, vi p2, vi p3, .val cv3, .val cv1, vr uu112, vr uu120, vr b1491, vr uu123, .val cv5] [(.int p2), (.int p1), cv3, cv5, cv4, (.ref uu123)])) rfl (by rw [hml]; rfl) (argsL := [(.ref uu123), cv4, cv5, cv3, (.int p1), (.int p2)]) (rest := []) (lenOf pd_24 rfl) rfl (Nat.le_of_eq rfl) (hb hby at_130) (fun _ _ => ⟨rfl, eq1532, (by decide : 13 + 0 ≤ _), (by decide : 66 + 0 ≤ _)⟩)
      dsimp only [Pt.U, Pt.locs, Pt.cells, Pt.slots] at X1534 l1534 y1534 z1534 st1534 hQ1534
      subst l1534 y1534 z1534
      obtain ⟨rfl, N1534q, eq1534⟩ := hQ1534
      have N1535 := Fr.app N1533 N1534q
      refine GoH.step (fun _ k => st1534 _ (XS.ifNo X1534.here hx rfl (hb hby at_133) rfl ((if0 _ _).trans (feq (by decide)).1) (XS.aload X1534.here hx rfl (hb hby at_136) rfl rfl (XS.iconst X1534.here hx rfl (hb hby at_138) (XS.iload X1534.here hx rfl (hb hby at_139) rfl (XS.iloadN X1534.here hx rfl (hb hby at_141) rfl (XS.iloadN X1534.here hx rfl (hb hby at_142) rfl (XS.iloadN X1534.here hx rfl (hb hby at_143) rfl k)))))))) ?_
      show GoH p e below s _ _ _ T1534 (mkF m 144 #[vi p1, vi p2, vi p3, .val cv3, .val cv1, vr uu112, vr uu120, vr b1491, vr uu123, .val cv5] [(.int p2), (.int p1), cv3, cv5, cv5, (.ref uu123)])
      obtain ⟨_, _, ⟨T1536, L1536, k1536, n1536⟩, -, X1536, ⟨Lc1536, hQ1536, l1536, y1536, z1536⟩, st1536⟩ := Jvm.LawKit.callS X1534 hx (y := xm36) hown1515 (mvT hZ1515 (tw173 hw)) (mvT hZ1515 (tw174 hw)) (mvT hZ1515 (tw2 hw)) (mvT hZ1515 (tw175 hw)) (by decide) (backOf (W := 0) (rm_ObjectRefToStringPinLaw_ok_1 l Z a0 hw [] uu123 ci5 ci5 ci3 p1 p2 T1515.heap n0 f1523 (by decide)) hZ1515 (tw175 hw) (tw2 hw) (by decide) (by decide)) (g := (mkF m 144 #[vi p1, vi p2, vi p3, .val cv3, .val cv1, vr uu112, vr uu120, vr b1491, vr uu123, .val cv5] [(.int p2), (.int p1), cv3, cv5, cv5, (.ref uu123)])) rfl (by rw [hml]; rfl) (argsL := [(.ref uu123), cv5, cv5, cv3, (.int p1), (.int p2)]) (rest := []) (lenOf pd_24 rfl) rfl (Nat.le_of_eq rfl) (hb hby at_144) (fun _ _ => ⟨rfl, eq1534, (by decide : 13 + 0 ≤ _), (by decide : 66 + 0 ≤ _)⟩)
      dsimp only [Pt.U, Pt.locs, Pt.cells, Pt.slots] at X1536 l1536 y1536 z1536 st1536 hQ1536
      subst l1536 y1536 z1536
      obtain ⟨rfl, N1536q, eq1536⟩ := hQ1536
      have N1537 := Fr.app N1535 N1536q
      refine GoH.step (fun _ k => st1536 _ (XS.ifNo X1536.here hx rfl (hb hby at_147) rfl ((if0 _ _).trans (feq (by decide)).1) (XS.aload X1536.here hx rfl (hb hby at_150) rfl rfl (XS.bipush X1536.here hx rfl (hb hby at_152) (XS.iload X1536.here hx rfl (hb hby at_154) rfl (XS.iloadN X1536.here hx rfl (hb hby at_156) rfl (XS.iloadN X1536.here hx rfl (hb hby at_157) rfl (XS.iloadN X1536.here hx rfl (hb hby at_158) rfl k)))))))) ?_
      show GoH p e below s _ _ _ T1536 (mkF m 159 #[vi p1, vi p2, vi p3, .val cv3, .val cv1, vr uu112, vr uu120, vr b1491, vr uu123, .val cv5] [(.int p2), (.int p1), cv3, cv5, cv6, (.ref uu123)])
      obtain ⟨_, _, ⟨T1538, L1538, k1538, n1538⟩, -, X1538, ⟨Lc1538, hQ1538, l1538, y1538, z1538⟩, st1538⟩ := Jvm.LawKit.callS X1536 hx (y := xm36) hown1515 (mvT hZ1515 (tw173 hw)) (mvT hZ1515 (tw174 hw)) (mvT hZ1515 (tw2 hw)) (mvT hZ1515 (tw175 hw)) (by decide) (backOf (W := 0) (rm_ObjectRefToStringPinLaw_ok_1 l Z a0 hw [] uu123 ci6 ci5 ci3 p1 p2 T1515.heap n0 f1523 (by decide)) hZ1515 (tw175 hw) (tw2 hw) (by decide) (by decide)) (g := (mkF m 159 #[vi p1, vi p2, vi p3, .val cv3, .val cv1, vr uu112, vr uu120, vr b1491, vr uu123, .val cv5] [(.int p2), (.int p1), cv3, cv5, cv6, (.ref uu123)])) rfl (by rw [hml]; rfl) (argsL := [(.ref uu123), cv6, cv5, cv3, (.int p1), (.int p2)]) (rest := []) (lenOf pd_24 rfl) rfl (Nat.le_of_eq rfl) (hb hby at_159) (fun _ _ => ⟨rfl, eq1536, (by decide : 13 + 0 ≤ _), (by decide : 66 + 0 ≤ _)⟩)
      dsimp only [Pt.U, Pt.locs, Pt.cells, Pt.slots] at X1538 l1538 y1538 z1538 st1538 hQ1538
      subst l1538 y1538 z1538
      obtain ⟨rfl, N1538q, eq1538⟩ := hQ1538
      have N1539 := Fr.app N1537 N1538q
      refine GoH.step (fun _ k => st1538 _ (XS.ifNo X1538.here hx rfl (hb hby at_162) rfl ((if0 _ _).trans (feq (by decide)).1) (XS.iconst X1538.here hx rfl (hb hby at_165) (XS.goto X1538.here hx rfl (pc0 := 166) (pc' := 170) rfl (hb hby at_166) (by decide) (by decide) k)))) ?_
      show GoH p e below s _ _ _ T1538 (mkF m 170 #[vi p1, vi p2, vi p3, .val cv3, .val cv1, vr uu112, vr uu120, vr b1491, vr uu123, .val cv5] [cv1])
      exact GoH.retN X1538 hS1515 hx hlk (t := .boolean) Bd.returns (by simp) (hb hby at_170) eq1538 (Nat.le_refl _) ⟨rfl, N1539⟩ (f1520.trans (CHv.at X1538 hZ1515 (own_EW hw) f1520.1)) (by decide) (by decide)
    · show GoH p e below s _ _ _ T1430 (mkF m 21 #[vi p1, vi p2, vi p3, .val cv3, .val cv2, vr uu112, .unset, .unset, .unset, .unset] [cv2, (.int p2)])
      have f1540 := (O0.keep K1430 all0)
      have f1541 := (Nat.le_trans Z0 K1430.1)
      obtain ⟨_, _, ⟨T1542, L1542, k1542, n1542⟩, -, X1542s, hs1542, hg1542, ⟨Lc1542, hQ1542, l1542, y1542, z1542, ch1542⟩, st1542⟩ := callSS X1430 hx (y := xm33) hown1430 (mvT hZ1430 (tw0 hw)) (mvT hZ1430 (tw1 hw)) (mvT hZ1430 (tw2 hw)) (mvT hZ1430 (tw3 hw)) (by decide) (backOfSH (W := 0) (rm_ObjectRefToStringPinLaw_make_2 l Z a0 hw [] p2 cs T1430.heap n0 f1541 Z_S_COMPACT_STRINGS f1540 hcs (own_c2 p2 ci0) (own_c2 p2 ci1)) hZ1430 (tw3 hw) (tw2 hw) (by decide) (by decide) (own_EW hw) f1432.1) (g := (mkF m 21 #[vi p1, vi p2, vi p3, .val cv3, .val cv2, vr uu112, .unset, .unset, .unset, .unset] [cv2, (.int p2)])) rfl (by rw [hml]; rfl) (argsL := [(.int p2), cv2]) (rest := []) (lenOf pd_3 rfl) rfl (Nat.le_of_eq rfl) (hb hby at_21) (fun _ _ => ⟨rfl, rfl, (by decide : 3 + 3 ≤ _), (by decide : 10 + 8 ≤ _)⟩)
      dsimp only [Pt.U, Pt.locs, Pt.cells, Pt.slots] at X1542s hs1542 hg1542 l1542 y1542 z1542 st1542 hQ1542 ch1542
      subst l1542 y1542 z1542
      obtain ⟨X1542, hS1542, hZ1542, hown1542⟩ := rebS hS1430 (by exact (Nat.le_refl _)) X1542s hs1542 hg1542 hZ1430 hown1430
      obtain ⟨uu126, uu127, uu128, rfl, N1542q, K1542, P1542_0, P1542_1, P1542_2, P1542_3, P1542_4, P1542_5, P1542_6⟩ := hQ1542
      have N1543 := Fr.app N1431 N1542q
      have f1544 := f1432.trans ch1542
      refine GoH.step (fun _ k => st1542.trans (XS.astore X1542.here hx rfl (hb hby at_24) rfl rfl (l' := #[vi p1, vi p2, vi p3, .val cv3, .val cv2, vr uu112, vr uu126, .unset, .unset, .unset]) rfl k)) ?_
      show GoH p e below s _ _ _ T1542 (mkF m 26 #[vi p1, vi p2, vi p3, .val cv3, .val cv2, vr uu112, vr uu126, .unset, .unset, .unset] [])
      obtain ⟨T1545, h1545, X1545, e1545, E1545, A1545, D1545, -, st1545⟩ := newO X1542 hx hZ1542 hown1542 (tw40 hw) (tw41 hw) (tw42 hw) rfl (g := (mkF m 26 #[vi p1, vi p2, vi p3, .val cv3, .val cv2, vr uu112, vr uu126, .unset, .unset, .unset] [])) rfl (hb hby at_26) (by decide) (by decide)
      obtain ⟨b1545, g1545⟩ : ∃ z, z = T1542.heap.size := ⟨_, rfl⟩
      rw [← g1545] at A1545 D1545 st1545
      have f1546 : Fld Z h1545 b1545 xs3 "type" xs21 .null := D1545 (Or.inr (tw53 hw)) (ty := (.object xs25)) (by decide)
      have f1547 : Fld Z h1545 b1545 xs3 "id" xs21 .null := D1545 (Or.inr (tw55 hw)) (ty := (.object xs25)) (by decide)
      refine GoH.step (fun _ k => st1545 _ (XS.dup X1545.here hx rfl (hb hby at_29) rfl rfl (XS.aload X1545.here hx rfl (hb hby at_30) rfl rfl (XS.aload X1545.here hx rfl (hb hby at_32) rfl rfl k)))) ?_
      show GoH p e below s _ _ _ T1545 (mkF m 34 #[vi p1, vi p2, vi p3, .val cv3, .val cv2, vr uu112, vr uu126, .unset, .unset, .unset] [(.ref uu126), (.ref uu112), (.ref b1545), (.ref b1545)])
      have f1548 := (Nat.le_trans (Nat.le_trans f1541 K1542.1) E1545.1)
      have f1549 := (Nat.le_trans f1541 K1542.1)
      have g1550 := Nat.le_trans f1549 (Nat.le_of_eq g1545.symm)
      obtain ⟨_, _, ⟨T1551, L1551, k1551, n1551⟩, -, X1551, ⟨Lc1551, hQ1551, l1551, y1551, z1551⟩, st1551⟩ := X1545.specialBack hx (y := xm31) rfl hown1542 (mvT hZ1542 (tw43 hw)) (mvT hZ1542 (tw44 hw)) (mvT hZ1542 (tw45 hw)) (by decide) (backOf (W := 1) (rm_ObjectRef_new_0 l Z a0 hw [] b1545 uu112 uu126 h1545 n0 f1548 A1545 f1546 g1550 f1547) hZ1542 (tw45 hw) (tw42 hw) (by decide) (by decide)) (g := (mkF m 34 #[vi p1, vi p2, vi p3, .val cv3, .val cv2, vr uu112, vr uu126, .unset, .unset, .unset] [(.ref uu126), (.ref uu112), (.ref b1545), (.ref b1545)])) rfl (by rw [hml]; rfl) (Steps.refl _) (a := b1545) (argsL := [(.ref uu112), (.ref uu126)]) (rest := [(.ref b1545)]) (lenOf pd_5 rfl) rfl (Nat.le_of_eq rfl) (hb hby at_34) (fun _ _ => ⟨rfl, e1545, (by decide : 7 + 0 ≤ _), (by decide : 20 + 0 ≤ _)⟩)
      dsimp only [Pt.U, Pt.locs, Pt.cells, Pt.slots] at X1551 l1551 y1551 z1551 st1551 hQ1551
      subst l1551 y1551 z1551
      obtain ⟨rfl, N1551q, K1551, P1551_0, P1551_1⟩ := hQ1551
      have N1552 := Fr.app N1543 N1551q
      refine GoH.step (fun _ k => st1551.trans (XS.astore X1551.here hx rfl (hb hby at_37) rfl rfl (l' := #[vi p1, vi p2, vi p3, .val cv3, .val cv2, vr uu112, vr uu126, vr b1545, .unset, .unset]) rfl (XS.aload X1551.here hx rfl (hb hby at_39) rfl rfl k))) ?_
      show GoH p e below s _ _ _ T1551 (mkF m 41 #[vi p1, vi p2, vi p3, .val cv3, .val cv2, vr uu112, vr uu126, vr b1545, .unset, .unset] [(.ref b1545)])
      have f1553 := (((f1540.keep K1542 all0).ext E1545).keep K1551 (allS g1550 all0))
      have f1554 := (Nat.le_trans f1548 K1551.1)
      have f1555 := (((P1430_1.keep K1542).ext E1545).keep K1551)
      have f1556 := (P1430_1.keep K1542)
      have ne1557 : uu112 ≠ b1545 := Nat.ne_of_lt (Nat.lt_of_lt_of_le f1556.lt (Nat.le_of_eq g1545.symm))
      have f1558 := (((P1430_3.keep K1542 nin0).ext E1545).keep K1551 (ninS ne1557 nin0))
      have f1559 := (P1430_5.keep K1542 nin0)
      have ne1560 : uu113 ≠ b1545 := Nat.ne_of_lt (Nat.lt_of_lt_of_le f1559.lt (Nat.le_of_eq g1545.symm))
      have f1561 := (((P1430_5.keep K1542 nin0).ext E1545).keep K1551 (ninS ne1560 nin0))
      have f1562 := (((P1430_2.keep K1542 nin0).ext E1545).keep K1551 (ninS ne1557 nin0))
      have f1563 := ((P1542_1.ext E1545).keep K1551)
      have ne1564 : uu126 ≠ b1545 := Nat.ne_of_lt (Nat.lt_of_lt_of_le P1542_1.lt (Nat.le_of_eq g1545.symm))
      have f1565 := ((P1542_3.ext E1545).keep K1551 (ninS ne1564 nin0))
      have ne1566 : uu127 ≠ b1545 := Nat.ne_of_lt (Nat.lt_of_lt_of_le P1542_5.lt (Nat.le_of_eq g1545.symm))
      have f1567 := ((P1542_5.ext E1545).keep K1551 (ninS ne1566 nin0))
      have f1568 := ((P1542_2.ext E1545).keep K1551 (ninS ne1564 nin0))
      have f1570 := (own_chK (own_chE f1544 E1545) K1551 (sfS (Safe.exa hZ1542.alike A1545 (by decide) (by decide)) sf0))
      have f1571 := (A1545.keep K1551)
      obtain ⟨cq1569, kq1569, q1569a, q1569b, q1569c⟩ := isOf hZ1542 rfl f1571
      obtain ⟨_, _, ⟨T1569, L1569, k1569, n1569⟩, -, X1569s, hs1569, hg1569, ⟨Lc1569, hQ1569, l1569, y1569, z1569, ch1569⟩, st1569⟩ := X1551.virtualBackS hx (y := xm21) (z := xm21) hown1542 (mvT hZ1542 (tw56 hw)) (mvT hZ1542 (tw57 hw)) (notFace_of_selects (args := #[]) (mvT hZ1542 (tw59 hw))) (mvT hZ1542 (tw59 hw)) (mvT hZ1542 (tw58 hw)) (by decide) (backOfSH (W := 0) (rm_ObjectRef_toString_0 l Z a0 hw [] b1545 cs uu112 uu113 uu114 ci3 ([(.int (nar .byte ((nar .char (own_ch p1 ci0)).toInt8.toInt32))), (.int (nar .byte ((nar .char (own_ch p1 ci1)).toInt8.toInt32))), (.int (nar .byte ((nar .char (own_ch p1 ci2)).toInt8.toInt32)))]) uu126 uu127 uu128 ci2 ([(.int (nar .byte ((nar .char (own_ch p2 ci0)).toInt8.toInt32))), (.int (nar .byte ((nar .char (own_ch p2 ci1)).toInt8.toInt32)))]) T1551.heap n0 f1554 Z_S_COMPACT_STRINGS f1553 hcs P1551_0 f1555 f1558 f1561 f1562 (by decide) (by decide) (Nat.le_of_ble_eq_true rfl) (Nat.le_of_ble_eq_true rfl) (Nat.le_of_ble_eq_true rfl) (by decide) (by decide) (Nat.le_of_ble_eq_true rfl) (Nat.le_of_ble_eq_true rfl) P1551_1 f1563 f1565 f1567 f1568 (by decide) (by decide) (by decide) (Nat.le_of_ble_eq_true rfl) (Nat.le_of_ble_eq_true rfl) (Nat.le_of_ble_eq_true rfl) (by decide) (by decide) (by decide) (Nat.le_of_ble_eq_true rfl) (by decide) (Nat.le_of_ble_eq_true rfl) (Nat.le_of_ble_eq_true rfl) (Nat.le_of_ble_eq_true rfl)) hZ1542 (tw60 hw) (tw42 hw) (by decide) (by decide) (own_EW hw) f1570.1) q1569a q1569c (g := (mkF m 41 #[vi p1, vi p2, vi p3, .val cv3, .val cv2, vr uu112, vr uu126, vr b1545, .unset, .unset] [(.ref b1545)])) rfl (by rw [hml]; rfl) (Steps.refl _) (argsL := []) (rest := []) (lenOf pd_21 rfl) rfl (Nat.le_of_eq rfl) (hb hby at_41) (fun _ _ => ⟨rfl, rfl, (by decide : 7 + 6 ≤ _), (by decide : 20 + 48 ≤ _)⟩)
      dsimp only [Pt.U, Pt.locs, Pt.cells, Pt.slots] at X1569s hs1569 hg1569 l1569 y1569 z1569 st1569 hQ1569 ch1569
      subst l1569 y1569 z1569
      have f1572 := (Nat.le_trans (Nat.le_trans (Nat.le_refl _) E1545.1) K1551.1)
      obtain ⟨X1569, hS1569, hZ1569, hown1569⟩ := rebS hS1542 (by exact f1572) X1569s hs1569 hg1569 hZ1542 hown1542
      obtain ⟨uu129, uu130, uu131, rfl, N1569q, K1569, P1569_0, P1569_1, P1569_2, P1569_3, P1569_4, P1569_5, P1569_6⟩ := hQ1569
      have N1573 := Fr.app N1552 N1569q
      have f1574 := f1570.trans ch1569
      refine GoH.step (fun _ k => st1569.trans k) ?_
      show GoH p e below s _ _ _ T1569 (mkF m 44 #[vi p1, vi p2, vi p3, .val cv3, .val cv2, vr uu112, vr uu126, vr b1545, .unset, .unset] [(.ref uu129)])
      have f1575 : Arv Z T1569.heap uu130 uu131 .byte ci6 [(.int (nar .byte ((nar .char (own_ch p1 ci0)).toInt8.toInt32))), (.int (nar .byte ((nar .char (own_ch p1 ci1)).toInt8.toInt32))), (.int (nar .byte ((nar .char (own_ch p1 ci2)).toInt8.toInt32))), cv58, (.int (nar .byte ((nar .char (own_ch p2 ci0)).toInt8.toInt32))), (.int (nar .byte ((nar .char (own_ch p2 ci1)).toInt8.toInt32)))] cv0 := P1569_5
      refine GoH.step (fun _ k => XS.astore X1569.here hx rfl (hb hby at_44) rfl rfl (l' := #[vi p1, vi p2, vi p3, .val cv3, .val cv2, vr uu112, vr uu126, vr b1545, vr uu129, .unset]) rfl (XS.iloadN X1569.here hx rfl (hb hby at_46) rfl (XS.iconst X1569.here hx rfl (hb hby at_47) (XS.iadd X1569.here hx rfl (hb hby at_48) rfl (XS.iload X1569.here hx rfl (hb hby at_49) rfl (XS.iadd X1569.here hx rfl (hb hby at_51) rfl (XS.istore X1569.here hx rfl (hb hby at_52) rfl (l' := #[vi p1, vi p2, vi p3, .val cv3, .val cv2, vr uu112, vr uu126, vr b1545, vr uu129, .val cv6]) rfl (XS.aload X1569.here hx rfl (hb hby at_54) rfl rfl k)))))))) ?_
      show GoH p e below s _ _ _ T1569 (mkF m 56 #[vi p1, vi p2, vi p3, .val cv3, .val cv2, vr uu112, vr uu126, vr b1545, vr uu129, .val cv6] [(.ref uu129)])
      have f1576 := (f1553.keep K1569 all0)
      have f1577 := (Nat.le_trans f1554 K1569.1)
      obtain ⟨cq1578, kq1578, q1578a, q1578b, q1578c⟩ := isOf hZ1569 rfl P1569_1
      obtain ⟨_, _, ⟨T1578, L1578, k1578, n1578⟩, -, X1578, ⟨Lc1578, hQ1578, l1578, y1578, z1578⟩, st1578⟩ := X1569.virtualBack hx (y := xm19) (z := xm19) hown1569 (mvT hZ1569 (tw172 hw)) (mvT hZ1569 (tw90 hw)) (notFace_of_selects (args := #[]) (mvT hZ1569 (tw92 hw))) (mvT hZ1569 (tw92 hw)) (mvT hZ1569 (tw91 hw)) (by decide) (backOf (W := 0) (rm_String_length_0 l Z a0 hw [] uu129 uu130 uu131 ci6 ([(.int (nar .byte ((nar .char (own_ch p1 ci0)).toInt8.toInt32))), (.int (nar .byte ((nar .char (own_ch p1 ci1)).toInt8.toInt32))), (.int (nar .byte ((nar .char (own_ch p1 ci2)).toInt8.toInt32))), cv58, (.int (nar .byte ((nar .char (own_ch p2 ci0)).toInt8.toInt32))), (.int (nar .byte ((nar .char (own_ch p2 ci1)).toInt8.toInt32)))]) cs T1569.heap n0 f1577 P1569_3 f1575 P1569_1 Z_S_COMPACT_STRINGS f1576 hcs P1569_2) hZ1569 (tw93 hw) (tw6 hw) (by decide) (by decide)) q1578a q1578c (g := (mkF m 56 #[vi p1, vi p2, vi p3, .val cv3, .val cv2, vr uu112, vr uu126, vr b1545, vr uu129, .val cv6] [(.ref uu129)])) rfl (by rw [hml]; rfl) (Steps.refl _) (argsL := []) (rest := []) (lenOf pd_8 rfl) rfl (Nat.le_of_eq rfl) (hb hby at_56) (fun _ _ => ⟨rfl, rfl, (by decide : 13 + 0 ≤ _), (by decide : 68 + 0 ≤ _)⟩)
      dsimp only [Pt.U, Pt.locs, Pt.cells, Pt.slots] at X1578 l1578 y1578 z1578 st1578 hQ1578
      subst l1578 y1578 z1578
      obtain ⟨rfl, N1578q, eq1578⟩ := hQ1578
      have N1579 := Fr.app N1573 N1578q
      refine GoH.step (fun _ k => st1578.trans (XS.iload X1578.here hx rfl (hb hby at_59) rfl (XS.icmpYes X1578.here hx rfl (pc0 := 61) (pc' := 66) rfl (hb hby at_61) rfl (teq (by decide)).1 (by decide) (by decide) (XS.aload X1578.here hx rfl (hb hby at_66) rfl rfl (XS.iconst X1578.here hx rfl (hb hby at_68) (XS.iload X1578.here hx rfl (hb hby at_69) rfl (XS.iloadN X1578.here hx rfl (hb hby at_71) rfl (XS.iloadN X1578.here hx rfl (hb hby at_72) rfl (XS.iloadN X1578.here hx rfl (hb hby at_73) rfl k))))))))) ?_
      show GoH p e below s _ _ _ T1578 (mkF m 74 #[vi p1, vi p2, vi p3, .val cv3, .val cv2, vr uu112, vr uu126, vr b1545, vr uu129, .val cv6] [(.int p2), (.int p1), cv3, cv6, cv0, (.ref uu129)])
      obtain ⟨_, _, ⟨T1580, L1580, k1580, n1580⟩, -, X1580, ⟨Lc1580, hQ1580, l1580, y1580, z1580⟩, st1580⟩ := Jvm.LawKit.callS X1578 hx (y := xm36) hown1569 (mvT hZ1569 (tw173 hw)) (mvT hZ1569 (tw174 hw)) (mvT hZ1569 (tw2 hw)) (mvT hZ1569 (tw175 hw)) (by decide) (backOf (W := 0) (rm_ObjectRefToStringPinLaw_ok_3 l Z a0 hw [] uu129 ci0 ci6 ci3 p1 p2 uu130 uu131 ci6 ([(.int (nar .byte ((nar .char (own_ch p1 ci0)).toInt8.toInt32))), (.int (nar .byte ((nar .char (own_ch p1 ci1)).toInt8.toInt32))), (.int (nar .byte ((nar .char (own_ch p1 ci2)).toInt8.toInt32))), cv58, (.int (nar .byte ((nar .char (own_ch p2 ci0)).toInt8.toInt32))), (.int (nar .byte ((nar .char (own_ch p2 ci1)).toInt8.toInt32)))]) (nar .byte ((nar .char (own_ch p1 ci0)).toInt8.toInt32)) cs fv T1569.heap n0 f1577 (by decide) (by decide) P1569_1 P1569_2 P1569_3 f1575 rfl Z_S_COMPACT_STRINGS Z_S_SIOOBE_FORMATTER f1576 hcs hfv (by decide) (by decide) (own_rt p1 ci0)) hZ1569 (tw175 hw) (tw2 hw) (by decide) (by decide)) (g := (mkF m 74 #[vi p1, vi p2, vi p3, .val cv3, .val cv2, vr uu112, vr uu126, vr b1545, vr uu129, .val cv6] [(.int p2), (.int p1), cv3, cv6, cv0, (.ref uu129)])) rfl (by rw [hml]; rfl) (argsL := [(.ref uu129), cv0, cv6, cv3, (.int p1), (.int p2)]) (rest := []) (lenOf pd_24 rfl) rfl (Nat.le_of_eq rfl) (hb hby at_74) (fun _ _ => ⟨rfl, eq1578, (by decide : 13 + 0 ≤ _), (by decide : 68 + 0 ≤ _)⟩)
      dsimp only [Pt.U, Pt.locs, Pt.cells, Pt.slots] at X1580 l1580 y1580 z1580 st1580 hQ1580
      subst l1580 y1580 z1580
      obtain ⟨rfl, N1580q, eq1580⟩ := hQ1580
      have N1581 := Fr.app N1579 N1580q
      refine GoH.step (fun _ k => st1580 _ (XS.ifNo X1580.here hx rfl (hb hby at_77) rfl ((if0 _ _).trans (feq (by decide)).1) (XS.aload X1580.here hx rfl (hb hby at_80) rfl rfl (XS.iconst X1580.here hx rfl (hb hby at_82) (XS.iload X1580.here hx rfl (hb hby at_83) rfl (XS.iloadN X1580.here hx rfl (hb hby at_85) rfl (XS.iloadN X1580.here hx rfl (hb hby at_86) rfl (XS.iloadN X1580.here hx rfl (hb hby at_87) rfl k)))))))) ?_
      show GoH p e below s _ _ _ T1580 (mkF m 88 #[vi p1, vi p2, vi p3, .val cv3, .val cv2, vr uu112, vr uu126, vr b1545, vr uu129, .val cv6] [(.int p2), (.int p1), cv3, cv6, cv1, (.ref uu129)])
      obtain ⟨_, _, ⟨T1582, L1582, k1582, n1582⟩, -, X1582, ⟨Lc1582, hQ1582, l1582, y1582, z1582⟩, st1582⟩ := Jvm.LawKit.callS X1580 hx (y := xm36) hown1569 (mvT hZ1569 (tw173 hw)) (mvT hZ1569 (tw174 hw)) (mvT hZ1569 (tw2 hw)) (mvT hZ1569 (tw175 hw)) (by decide) (backOf (W := 0) (rm_ObjectRefToStringPinLaw_ok_3 l Z a0 hw [] uu129 ci1 ci6 ci3 p1 p2 uu130 uu131 ci6 ([(.int (nar .byte ((nar .char (own_ch p1 ci0)).toInt8.toInt32))), (.int (nar .byte ((nar .char (own_ch p1 ci1)).toInt8.toInt32))), (.int (nar .byte ((nar .char (own_ch p1 ci2)).toInt8.toInt32))), cv58, (.int (nar .byte ((nar .char (own_ch p2 ci0)).toInt8.toInt32))), (.int (nar .byte ((nar .char (own_ch p2 ci1)).toInt8.toInt32)))]) (nar .byte ((nar .char (own_ch p1 ci1)).toInt8.toInt32)) cs fv T1569.heap n0 f1577 (by decide) (by decide) P1569_1 P1569_2 P1569_3 f1575 rfl Z_S_COMPACT_STRINGS Z_S_SIOOBE_FORMATTER f1576 hcs hfv (by decide) (by decide) (own_rt p1 ci1)) hZ1569 (tw175 hw) (tw2 hw) (by decide) (by decide)) (g := (mkF m 88 #[vi p1, vi p2, vi p3, .val cv3, .val cv2, vr uu112, vr uu126, vr b1545, vr uu129, .val cv6] [(.int p2), (.int p1), cv3, cv6, cv1, (.ref uu129)])) rfl (by rw [hml]; rfl) (argsL := [(.ref uu129), cv1, cv6, cv3, (.int p1), (.int p2)]) (rest := []) (lenOf pd_24 rfl) rfl (Nat.le_of_eq rfl) (hb hby at_88) (fun _ _ => ⟨rfl, eq1580, (by decide : 13 + 0 ≤ _), (by decide : 68 + 0 ≤ _)⟩)
      dsimp only [Pt.U, Pt.locs, Pt.cells, Pt.slots] at X1582 l1582 y1582 z1582 st1582 hQ1582
      subst l1582 y1582 z1582
      obtain ⟨rfl, N1582q, eq1582⟩ := hQ1582
      have N1583 := Fr.app N1581 N1582q
      refine GoH.step (fun _ k => st1582 _ (XS.ifNo X1582.here hx rfl (hb hby at_91) rfl ((if0 _ _).trans (feq (by decide)).1) (XS.aload X1582.here hx rfl (hb hby at_94) rfl rfl (XS.iconst X1582.here hx rfl (hb hby at_96) (XS.iload X1582.here hx rfl (hb hby at_97) rfl (XS.iloadN X1582.here hx rfl (hb hby at_99) rfl (XS.iloadN X1582.here hx rfl (hb hby at_100) rfl (XS.iloadN X1582.here hx rfl (hb hby at_101) rfl k)))))))) ?_
      show GoH p e below s _ _ _ T1582 (mkF m 102 #[vi p1, vi p2, vi p3, .val cv3, .val cv2, vr uu112, vr uu126, vr b1545, vr uu129, .val cv6] [(.int p2), (.int p1), cv3, cv6, cv2, (.ref uu129)])
      obtain ⟨_, _, ⟨T1584, L1584, k1584, n1584⟩, -, X1584, ⟨Lc1584, hQ1584, l1584, y1584, z1584⟩, st1584⟩ := Jvm.LawKit.callS X1582 hx (y := xm36) hown1569 (mvT hZ1569 (tw173 hw)) (mvT hZ1569 (tw174 hw)) (mvT hZ1569 (tw2 hw)) (mvT hZ1569 (tw175 hw)) (by decide) (backOf (W := 0) (rm_ObjectRefToStringPinLaw_ok_3 l Z a0 hw [] uu129 ci2 ci6 ci3 p1 p2 uu130 uu131 ci6 ([(.int (nar .byte ((nar .char (own_ch p1 ci0)).toInt8.toInt32))), (.int (nar .byte ((nar .char (own_ch p1 ci1)).toInt8.toInt32))), (.int (nar .byte ((nar .char (own_ch p1 ci2)).toInt8.toInt32))), cv58, (.int (nar .byte ((nar .char (own_ch p2 ci0)).toInt8.toInt32))), (.int (nar .byte ((nar .char (own_ch p2 ci1)).toInt8.toInt32)))]) (nar .byte ((nar .char (own_ch p1 ci2)).toInt8.toInt32)) cs fv T1569.heap n0 f1577 (by decide) (by decide) P1569_1 P1569_2 P1569_3 f1575 rfl Z_S_COMPACT_STRINGS Z_S_SIOOBE_FORMATTER f1576 hcs hfv (by decide) (by decide) (own_rt p1 ci2)) hZ1569 (tw175 hw) (tw2 hw) (by decide) (by decide)) (g := (mkF m 102 #[vi p1, vi p2, vi p3, .val cv3, .val cv2, vr uu112, vr uu126, vr b1545, vr uu129, .val cv6] [(.int p2), (.int p1), cv3, cv6, cv2, (.ref uu129)])) rfl (by rw [hml]; rfl) (argsL := [(.ref uu129), cv2, cv6, cv3, (.int p1), (.int p2)]) (rest := []) (lenOf pd_24 rfl) rfl (Nat.le_of_eq rfl) (hb hby at_102) (fun _ _ => ⟨rfl, eq1582, (by decide : 13 + 0 ≤ _), (by decide : 68 + 0 ≤ _)⟩)
      dsimp only [Pt.U, Pt.locs, Pt.cells, Pt.slots] at X1584 l1584 y1584 z1584 st1584 hQ1584
      subst l1584 y1584 z1584
      obtain ⟨rfl, N1584q, eq1584⟩ := hQ1584
      have N1585 := Fr.app N1583 N1584q
      refine GoH.step (fun _ k => st1584 _ (XS.ifNo X1584.here hx rfl (hb hby at_105) rfl ((if0 _ _).trans (feq (by decide)).1) (XS.aload X1584.here hx rfl (hb hby at_108) rfl rfl (XS.iconst X1584.here hx rfl (hb hby at_110) (XS.iload X1584.here hx rfl (hb hby at_111) rfl (XS.iloadN X1584.here hx rfl (hb hby at_113) rfl (XS.iloadN X1584.here hx rfl (hb hby at_114) rfl (XS.iloadN X1584.here hx rfl (hb hby at_115) rfl k)))))))) ?_
      show GoH p e below s _ _ _ T1584 (mkF m 116 #[vi p1, vi p2, vi p3, .val cv3, .val cv2, vr uu112, vr uu126, vr b1545, vr uu129, .val cv6] [(.int p2), (.int p1), cv3, cv6, cv3, (.ref uu129)])
      obtain ⟨_, _, ⟨T1586, L1586, k1586, n1586⟩, -, X1586, ⟨Lc1586, hQ1586, l1586, y1586, z1586⟩, st1586⟩ := Jvm.LawKit.callS X1584 hx (y := xm36) hown1569 (mvT hZ1569 (tw173 hw)) (mvT hZ1569 (tw174 hw)) (mvT hZ1569 (tw2 hw)) (mvT hZ1569 (tw175 hw)) (by decide) (backOf (W := 0) (rm_ObjectRefToStringPinLaw_ok_0 l Z a0 hw [] uu129 ci3 ci6 ci3 p1 p2 cs uu130 uu131 ci6 ([(.int (nar .byte ((nar .char (own_ch p1 ci0)).toInt8.toInt32))), (.int (nar .byte ((nar .char (own_ch p1 ci1)).toInt8.toInt32))), (.int (nar .byte ((nar .char (own_ch p1 ci2)).toInt8.toInt32))), cv58, (.int (nar .byte ((nar .char (own_ch p2 ci0)).toInt8.toInt32))), (.int (nar .byte ((nar .char (own_ch p2 ci1)).toInt8.toInt32)))]) fv ci58 T1569.heap n0 f1577 (by decide) (by decide) rfl P1569_1 Z_S_COMPACT_STRINGS f1576 hcs P1569_2 P1569_3 f1575 Z_S_SIOOBE_FORMATTER hfv rfl (by decide) (by decide) (by decide)) hZ1569 (tw175 hw) (tw2 hw) (by decide) (by decide)) (g := (mkF m 116 #[vi p1, vi p2, vi p3, .val cv3, .val cv2, vr uu112, vr uu126, vr b1545, vr uu129, .val cv6] [(.int p2), (.int p1), cv3, cv6, cv3, (.ref uu129)])) rfl (by rw [hml]; rfl) (argsL := [(.ref uu129), cv3, cv6, cv3, (.int p1), (.int p2)]) (rest := []) (lenOf pd_24 rfl) rfl (Nat.le_of_eq rfl) (hb hby at_116) (fun _ _ => ⟨rfl, eq1584, (by decide : 13 + 0 ≤ _), (by decide : 68 + 0 ≤ _)⟩)
      dsimp only [Pt.U, Pt.locs, Pt.cells, Pt.slots] at X1586 l1586 y1586 z1586 st1586 hQ1586
      subst l1586 y1586 z1586
      obtain ⟨rfl, N1586q, eq1586⟩ := hQ1586
      have N1587 := Fr.app N1585 N1586q
      refine GoH.step (fun _ k => st1586 _ (XS.ifNo X1586.here hx rfl (hb hby at_119) rfl ((if0 _ _).trans (feq (by decide)).1) (XS.aload X1586.here hx rfl (hb hby at_122) rfl rfl (XS.iconst X1586.here hx rfl (hb hby at_124) (XS.iload X1586.here hx rfl (hb hby at_125) rfl (XS.iloadN X1586.here hx rfl (hb hby at_127) rfl (XS.iloadN X1586.here hx rfl (hb hby at_128) rfl (XS.iloadN X1586.here hx rfl (hb hby at_129) rfl k)))))))) ?_
      show GoH p e below s _ _ _ T1586 (mkF m 130 #[vi p1, vi p2, vi p3, .val cv3, .val cv2, vr uu112, vr uu126, vr b1545, vr uu129, .val cv6] [(.int p2), (.int p1), cv3, cv6, cv4, (.ref uu129)])
      obtain ⟨_, _, ⟨T1588, L1588, k1588, n1588⟩, -, X1588, ⟨Lc1588, hQ1588, l1588, y1588, z1588⟩, st1588⟩ := Jvm.LawKit.callS X1586 hx (y := xm36) hown1569 (mvT hZ1569 (tw173 hw)) (mvT hZ1569 (tw174 hw)) (mvT hZ1569 (tw2 hw)) (mvT hZ1569 (tw175 hw)) (by decide) (backOf (W := 0) (rm_ObjectRefToStringPinLaw_ok_2 l Z a0 hw [] uu129 ci4 ci6 ci3 p1 p2 uu130 uu131 ci6 ([(.int (nar .byte ((nar .char (own_ch p1 ci0)).toInt8.toInt32))), (.int (nar .byte ((nar .char (own_ch p1 ci1)).toInt8.toInt32))), (.int (nar .byte ((nar .char (own_ch p1 ci2)).toInt8.toInt32))), cv58, (.int (nar .byte ((nar .char (own_ch p2 ci0)).toInt8.toInt32))), (.int (nar .byte ((nar .char (own_ch p2 ci1)).toInt8.toInt32)))]) (nar .byte ((nar .char (own_ch p2 ci0)).toInt8.toInt32)) cs fv T1569.heap n0 f1577 (by decide) (by decide) (by decide) P1569_1 P1569_2 P1569_3 f1575 rfl Z_S_COMPACT_STRINGS Z_S_SIOOBE_FORMATTER f1576 hcs hfv (by decide) (by decide) (own_rt p2 ci0)) hZ1569 (tw175 hw) (tw2 hw) (by decide) (by decide)) (g := (mkF m 130 #[vi p1, vi p2, vi p3, .val cv3, .val cv2, vr uu112, vr uu126, vr b1545, vr uu129, .val cv6] [(.int p2), (.int p1), cv3, cv6, cv4, (.ref uu129)])) rfl (by rw [hml]; rfl) (argsL := [(.ref uu129), cv4, cv6, cv3, (.int p1), (.int p2)]) (rest := []) (lenOf pd_24 rfl) rfl (Nat.le_of_eq rfl) (hb hby at_130) (fun _ _ => ⟨rfl, eq1586, (by decide : 13 + 0 ≤ _), (by decide : 68 + 0 ≤ _)⟩)
      dsimp only [Pt.U, Pt.locs, Pt.cells, Pt.slots] at X1588 l1588 y1588 z1588 st1588 hQ1588
      subst l1588 y1588 z1588
      obtain ⟨rfl, N1588q, eq1588⟩ := hQ1588
      have N1589 := Fr.app N1587 N1588q
      refine GoH.step (fun _ k => st1588 _ (XS.ifNo X1588.here hx rfl (hb hby at_133) rfl ((if0 _ _).trans (feq (by decide)).1) (XS.aload X1588.here hx rfl (hb hby at_136) rfl rfl (XS.iconst X1588.here hx rfl (hb hby at_138) (XS.iload X1588.here hx rfl (hb hby at_139) rfl (XS.iloadN X1588.here hx rfl (hb hby at_141) rfl (XS.iloadN X1588.here hx rfl (hb hby at_142) rfl (XS.iloadN X1588.here hx rfl (hb hby at_143) rfl k)))))))) ?_
      show GoH p e below s _ _ _ T1588 (mkF m 144 #[vi p1, vi p2, vi p3, .val cv3, .val cv2, vr uu112, vr uu126, vr b1545, vr uu129, .val cv6] [(.int p2), (.int p1), cv3, cv6, cv5, (.ref uu129)])
      obtain ⟨_, _, ⟨T1590, L1590, k1590, n1590⟩, -, X1590, ⟨Lc1590, hQ1590, l1590, y1590, z1590⟩, st1590⟩ := Jvm.LawKit.callS X1588 hx (y := xm36) hown1569 (mvT hZ1569 (tw173 hw)) (mvT hZ1569 (tw174 hw)) (mvT hZ1569 (tw2 hw)) (mvT hZ1569 (tw175 hw)) (by decide) (backOf (W := 0) (rm_ObjectRefToStringPinLaw_ok_2 l Z a0 hw [] uu129 ci5 ci6 ci3 p1 p2 uu130 uu131 ci6 ([(.int (nar .byte ((nar .char (own_ch p1 ci0)).toInt8.toInt32))), (.int (nar .byte ((nar .char (own_ch p1 ci1)).toInt8.toInt32))), (.int (nar .byte ((nar .char (own_ch p1 ci2)).toInt8.toInt32))), cv58, (.int (nar .byte ((nar .char (own_ch p2 ci0)).toInt8.toInt32))), (.int (nar .byte ((nar .char (own_ch p2 ci1)).toInt8.toInt32)))]) (nar .byte ((nar .char (own_ch p2 ci1)).toInt8.toInt32)) cs fv T1569.heap n0 f1577 (by decide) (by decide) (by decide) P1569_1 P1569_2 P1569_3 f1575 rfl Z_S_COMPACT_STRINGS Z_S_SIOOBE_FORMATTER f1576 hcs hfv (by decide) (by decide) (own_rt p2 ci1)) hZ1569 (tw175 hw) (tw2 hw) (by decide) (by decide)) (g := (mkF m 144 #[vi p1, vi p2, vi p3, .val cv3, .val cv2, vr uu112, vr uu126, vr b1545, vr uu129, .val cv6] [(.int p2), (.int p1), cv3, cv6, cv5, (.ref uu129)])) rfl (by rw [hml]; rfl) (argsL := [(.ref uu129), cv5, cv6, cv3, (.int p1), (.int p2)]) (rest := []) (lenOf pd_24 rfl) rfl (Nat.le_of_eq rfl) (hb hby at_144) (fun _ _ => ⟨rfl, eq1588, (by decide : 13 + 0 ≤ _), (by decide : 68 + 0 ≤ _)⟩)
      dsimp only [Pt.U, Pt.locs, Pt.cells, Pt.slots] at X1590 l1590 y1590 z1590 st1590 hQ1590
      subst l1590 y1590 z1590
      obtain ⟨rfl, N1590q, eq1590⟩ := hQ1590
      have N1591 := Fr.app N1589 N1590q
      refine GoH.step (fun _ k => st1590 _ (XS.ifNo X1590.here hx rfl (hb hby at_147) rfl ((if0 _ _).trans (feq (by decide)).1) (XS.aload X1590.here hx rfl (hb hby at_150) rfl rfl (XS.bipush X1590.here hx rfl (hb hby at_152) (XS.iload X1590.here hx rfl (hb hby at_154) rfl (XS.iloadN X1590.here hx rfl (hb hby at_156) rfl (XS.iloadN X1590.here hx rfl (hb hby at_157) rfl (XS.iloadN X1590.here hx rfl (hb hby at_158) rfl k)))))))) ?_
      show GoH p e below s _ _ _ T1590 (mkF m 159 #[vi p1, vi p2, vi p3, .val cv3, .val cv2, vr uu112, vr uu126, vr b1545, vr uu129, .val cv6] [(.int p2), (.int p1), cv3, cv6, cv6, (.ref uu129)])
      obtain ⟨_, _, ⟨T1592, L1592, k1592, n1592⟩, -, X1592, ⟨Lc1592, hQ1592, l1592, y1592, z1592⟩, st1592⟩ := Jvm.LawKit.callS X1590 hx (y := xm36) hown1569 (mvT hZ1569 (tw173 hw)) (mvT hZ1569 (tw174 hw)) (mvT hZ1569 (tw2 hw)) (mvT hZ1569 (tw175 hw)) (by decide) (backOf (W := 0) (rm_ObjectRefToStringPinLaw_ok_1 l Z a0 hw [] uu129 ci6 ci6 ci3 p1 p2 T1569.heap n0 f1577 (by decide)) hZ1569 (tw175 hw) (tw2 hw) (by decide) (by decide)) (g := (mkF m 159 #[vi p1, vi p2, vi p3, .val cv3, .val cv2, vr uu112, vr uu126, vr b1545, vr uu129, .val cv6] [(.int p2), (.int p1), cv3, cv6, cv6, (.ref uu129)])) rfl (by rw [hml]; rfl) (argsL := [(.ref uu129), cv6, cv6, cv3, (.int p1), (.int p2)]) (rest := []) (lenOf pd_24 rfl) rfl (Nat.le_of_eq rfl) (hb hby at_159) (fun _ _ => ⟨rfl, eq1590, (by decide : 13 + 0 ≤ _), (by decide : 68 + 0 ≤ _)⟩)
      dsimp only [Pt.U, Pt.locs, Pt.cells, Pt.slots] at X1592 l1592 y1592 z1592 st1592 hQ1592
      subst l1592 y1592 z1592
      obtain ⟨rfl, N1592q, eq1592⟩ := hQ1592
      have N1593 := Fr.app N1591 N1592q
      refine GoH.step (fun _ k => st1592 _ (XS.ifNo X1592.here hx rfl (hb hby at_162) rfl ((if0 _ _).trans (feq (by decide)).1) (XS.iconst X1592.here hx rfl (hb hby at_165) (XS.goto X1592.here hx rfl (pc0 := 166) (pc' := 170) rfl (hb hby at_166) (by decide) (by decide) k)))) ?_
      show GoH p e below s _ _ _ T1592 (mkF m 170 #[vi p1, vi p2, vi p3, .val cv3, .val cv2, vr uu112, vr uu126, vr b1545, vr uu129, .val cv6] [cv1])
      exact GoH.retN X1592 hS1569 hx hlk (t := .boolean) Bd.returns (by simp) (hb hby at_170) eq1592 (Nat.le_refl _) ⟨rfl, N1593⟩ (f1574.trans (CHv.at X1592 hZ1569 (own_EW hw) f1574.1)) (by decide) (by decide)
    · show GoH p e below s _ _ _ T1430 (mkF m 21 #[vi p1, vi p2, vi p3, .val cv3, .val cv3, vr uu112, .unset, .unset, .unset, .unset] [cv3, (.int p2)])
      have f1594 := (O0.keep K1430 all0)
      have f1595 := (Nat.le_trans Z0 K1430.1)
      obtain ⟨_, _, ⟨T1596, L1596, k1596, n1596⟩, -, X1596s, hs1596, hg1596, ⟨Lc1596, hQ1596, l1596, y1596, z1596, ch1596⟩, st1596⟩ := callSS X1430 hx (y := xm33) hown1430 (mvT hZ1430 (tw0 hw)) (mvT hZ1430 (tw1 hw)) (mvT hZ1430 (tw2 hw)) (mvT hZ1430 (tw3 hw)) (by decide) (backOfSH (W := 0) (rm_ObjectRefToStringPinLaw_make_3 l Z a0 hw [] p2 cs T1430.heap n0 f1595 Z_S_COMPACT_STRINGS f1594 hcs (own_c2 p2 ci0) (own_c2 p2 ci1) (own_c2 p2 ci2)) hZ1430 (tw3 hw) (tw2 hw) (by decide) (by decide) (own_EW hw) f1432.1) (g := (mkF m 21 #[vi p1, vi p2, vi p3, .val cv3, .val cv3, vr uu112, .unset, .unset, .unset, .unset] [cv3, (.int p2)])) rfl (by rw [hml]; rfl) (argsL := [(.int p2), cv3]) (rest := []) (lenOf pd_3 rfl) rfl (Nat.le_of_eq rfl) (hb hby at_21) (fun _ _ => ⟨rfl, rfl, (by decide : 3 + 3 ≤ _), (by decide : 10 + 10 ≤ _)⟩)
      dsimp only [Pt.U, Pt.locs, Pt.cells, Pt.slots] at X1596s hs1596 hg1596 l1596 y1596 z1596 st1596 hQ1596 ch1596
      subst l1596 y1596 z1596
      obtain ⟨X1596, hS1596, hZ1596, hown1596⟩ := rebS hS1430 (by exact (Nat.le_refl _)) X1596s hs1596 hg1596 hZ1430 hown1430
      obtain ⟨uu132, uu133, uu134, rfl, N1596q, K1596, P1596_0, P1596_1, P1596_2, P1596_3, P1596_4, P1596_5, P1596_6⟩ := hQ1596
      have N1597 := Fr.app N1431 N1596q
      have f1598 := f1432.trans ch1596
      refine GoH.step (fun _ k => st1596.trans (XS.astore X1596.here hx rfl (hb hby at_24) rfl rfl (l' := #[vi p1, vi p2, vi p3, .val cv3, .val cv3, vr uu112, vr uu132, .unset, .unset, .unset]) rfl k)) ?_
      show GoH p e below s _ _ _ T1596 (mkF m 26 #[vi p1, vi p2, vi p3, .val cv3, .val cv3, vr uu112, vr uu132, .unset, .unset, .unset] [])
      obtain ⟨T1599, h1599, X1599, e1599, E1599, A1599, D1599, -, st1599⟩ := newO X1596 hx hZ1596 hown1596 (tw40 hw) (tw41 hw) (tw42 hw) rfl (g := (mkF m 26 #[vi p1, vi p2, vi p3, .val cv3, .val cv3, vr uu112, vr uu132, .unset, .unset, .unset] [])) rfl (hb hby at_26) (by decide) (by decide)
      obtain ⟨b1599, g1599⟩ : ∃ z, z = T1596.heap.size := ⟨_, rfl⟩
      rw [← g1599] at A1599 D1599 st1599
      have f1600 : Fld Z h1599 b1599 xs3 "type" xs21 .null := D1599 (Or.inr (tw53 hw)) (ty := (.object xs25)) (by decide)
      have f1601 : Fld Z h1599 b1599 xs3 "id" xs21 .null := D1599 (Or.inr (tw55 hw)) (ty := (.object xs25)) (by decide)
      refine GoH.step (fun _ k => st1599 _ (XS.dup X1599.here hx rfl (hb hby at_29) rfl rfl (XS.aload X1599.here hx rfl (hb hby at_30) rfl rfl (XS.aload X1599.here hx rfl (hb hby at_32) rfl rfl k)))) ?_
      show GoH p e below s _ _ _ T1599 (mkF m 34 #[vi p1, vi p2, vi p3, .val cv3, .val cv3, vr uu112, vr uu132, .unset, .unset, .unset] [(.ref uu132), (.ref uu112), (.ref b1599), (.ref b1599)])
      have f1602 := (Nat.le_trans (Nat.le_trans f1595 K1596.1) E1599.1)
      have f1603 := (Nat.le_trans f1595 K1596.1)
      have g1604 := Nat.le_trans f1603 (Nat.le_of_eq g1599.symm)
      obtain ⟨_, _, ⟨T1605, L1605, k1605, n1605⟩, -, X1605, ⟨Lc1605, hQ1605, l1605, y1605, z1605⟩, st1605⟩ := X1599.specialBack hx (y := xm31) rfl hown1596 (mvT hZ1596 (tw43 hw)) (mvT hZ1596 (tw44 hw)) (mvT hZ1596 (tw45 hw)) (by decide) (backOf (W := 1) (rm_ObjectRef_new_0 l Z a0 hw [] b1599 uu112 uu132 h1599 n0 f1602 A1599 f1600 g1604 f1601) hZ1596 (tw45 hw) (tw42 hw) (by decide) (by decide)) (g := (mkF m 34 #[vi p1, vi p2, vi p3, .val cv3, .val cv3, vr uu112, vr uu132, .unset, .unset, .unset] [(.ref uu132), (.ref uu112), (.ref b1599), (.ref b1599)])) rfl (by rw [hml]; rfl) (Steps.refl _) (a := b1599) (argsL := [(.ref uu112), (.ref uu132)]) (rest := [(.ref b1599)]) (lenOf pd_5 rfl) rfl (Nat.le_of_eq rfl) (hb hby at_34) (fun _ _ => ⟨rfl, e1599, (by decide : 7 + 0 ≤ _), (by decide : 22 + 0 ≤ _)⟩)
      dsimp only [Pt.U, Pt.locs, Pt.cells, Pt.slots] at X1605 l1605 y1605 z1605 st1605 hQ1605
      subst l1605 y1605 z1605
      obtain ⟨rfl, N1605q, K1605, P1605_0, P1605_1⟩ := hQ1605
      have N1606 := Fr.app N1597 N1605q
      refine GoH.step (fun _ k => st1605.trans (XS.astore X1605.here hx rfl (hb hby at_37) rfl rfl (l' := #[vi p1, vi p2, vi p3, .val cv3, .val cv3, vr uu112, vr uu132, vr b1599, .unset, .unset]) rfl (XS.aload X1605.here hx rfl (hb hby at_39) rfl rfl k))) ?_
      show GoH p e below s _ _ _ T1605 (mkF m 41 #[vi p1, vi p2, vi p3, .val cv3, .val cv3, vr uu112, vr uu132, vr b1599, .unset, .unset] [(.ref b1599)])
      have f1607 := (((f1594.keep K1596 all0).ext E1599).keep K1605 (allS g1604 all0))
      have f1608 := (Nat.le_trans f1602 K1605.1)
      have f1609 := (((P1430_1.keep K1596).ext E1599).keep K1605)
      have f1610 := (P1430_1.keep K1596)
      have ne1611 : uu112 ≠ b1599 := Nat.ne_of_lt (Nat.lt_of_lt_of_le f1610.lt (Nat.le_of_eq g1599.symm))
      have f1612 := (((P1430_3.keep K1596 nin0).ext E1599).keep K1605 (ninS ne1611 nin0))
      have f1613 := (P1430_5.keep K1596 nin0)
      have ne1614 : uu113 ≠ b1599 := Nat.ne_of_lt (Nat.lt_of_lt_of_le f1613.lt (Nat.le_of_eq g1599.symm))
      have f1615 := (((P1430_5.keep K1596 nin0).ext E1599).keep K1605 (ninS ne1614 nin0))
      have f1616 := (((P1430_2.keep K1596 nin0).ext E1599).keep K1605 (ninS ne1611 nin0))
      have f1617 := ((P1596_1.ext E1599).keep K1605)
      have ne1618 : uu132 ≠ b1599 := Nat.ne_of_lt (Nat.lt_of_lt_of_le P1596_1.lt (Nat.le_of_eq g1599.symm))
      have f1619 := ((P1596_3.ext E1599).keep K1605 (ninS ne1618 nin0))
      have ne1620 : uu133 ≠ b1599 := Nat.ne_of_lt (Nat.lt_of_lt_of_le P1596_5.lt (Nat.le_of_eq g1599.symm))
      have f1621 := ((P1596_5.ext E1599).keep K1605 (ninS ne1620 nin0))
      have f1622 := ((P1596_2.ext E1599).keep K1605 (ninS ne1618 nin0))
      have f1624 := (own_chK (own_chE f1598 E1599) K1605 (sfS (Safe.exa hZ1596.alike A1599 (by decide) (by decide)) sf0))
      have f1625 := (A1599.keep K1605)
      obtain ⟨cq1623, kq1623, q1623a, q1623b, q1623c⟩ := isOf hZ1596 rfl f1625
      obtain ⟨_, _, ⟨T1623, L1623, k1623, n1623⟩, -, X1623s, hs1623, hg1623, ⟨Lc1623, hQ1623, l1623, y1623, z1623, ch1623⟩, st1623⟩ := X1605.virtualBackS hx (y := xm21) (z := xm21) hown1596 (mvT hZ1596 (tw56 hw)) (mvT hZ1596 (tw57 hw)) (notFace_of_selects (args := #[]) (mvT hZ1596 (tw59 hw))) (mvT hZ1596 (tw59 hw)) (mvT hZ1596 (tw58 hw)) (by decide) (backOfSH (W := 0) (rm_ObjectRef_toString_0 l Z a0 hw [] b1599 cs uu112 uu113 uu114 ci3 ([(.int (nar .byte ((nar .char (own_ch p1 ci0)).toInt8.toInt32))), (.int (nar .byte ((nar .char (own_ch p1 ci1)).toInt8.toInt32))), (.int (nar .byte ((nar .char (own_ch p1 ci2)).toInt8.toInt32)))]) uu132 uu133 uu134 ci3 ([(.int (nar .byte ((nar .char (own_ch p2 ci0)).toInt8.toInt32))), (.int (nar .byte ((nar .char (own_ch p2 ci1)).toInt8.toInt32))), (.int (nar .byte ((nar .char (own_ch p2 ci2)).toInt8.toInt32)))]) T1605.heap n0 f1608 Z_S_COMPACT_STRINGS f1607 hcs P1605_0 f1609 f1612 f1615 f1616 (by decide) (by decide) (Nat.le_of_ble_eq_true rfl) (Nat.le_of_ble_eq_true rfl) (Nat.le_of_ble_eq_true rfl) (by decide) (by decide) (Nat.le_of_ble_eq_true rfl) (Nat.le_of_ble_eq_true rfl) P1605_1 f1617 f1619 f1621 f1622 (by decide) (by decide) (by decide) (Nat.le_of_ble_eq_true rfl) (Nat.le_of_ble_eq_true rfl) (Nat.le_of_ble_eq_true rfl) (by decide) (by decide) (by decide) (Nat.le_of_ble_eq_true rfl) (by decide) (Nat.le_of_ble_eq_true rfl) (Nat.le_of_ble_eq_true rfl) (Nat.le_of_ble_eq_true rfl)) hZ1596 (tw60 hw) (tw42 hw) (by decide) (by decide) (own_EW hw) f1624.1) q1623a q1623c (g := (mkF m 41 #[vi p1, vi p2, vi p3, .val cv3, .val cv3, vr uu112, vr uu132, vr b1599, .unset, .unset] [(.ref b1599)])) rfl (by rw [hml]; rfl) (Steps.refl _) (argsL := []) (rest := []) (lenOf pd_21 rfl) rfl (Nat.le_of_eq rfl) (hb hby at_41) (fun _ _ => ⟨rfl, rfl, (by decide : 7 + 6 ≤ _), (by decide : 22 + 48 ≤ _)⟩)
      dsimp only [Pt.U, Pt.locs, Pt.cells, Pt.slots] at X1623s hs1623 hg1623 l1623 y1623 z1623 st1623 hQ1623 ch1623
      subst l1623 y1623 z1623
      have f1626 := (Nat.le_trans (Nat.le_trans (Nat.le_refl _) E1599.1) K1605.1)
      obtain ⟨X1623, hS1623, hZ1623, hown1623⟩ := rebS hS1596 (by exact f1626) X1623s hs1623 hg1623 hZ1596 hown1596
      obtain ⟨uu135, uu136, uu137, rfl, N1623q, K1623, P1623_0, P1623_1, P1623_2, P1623_3, P1623_4, P1623_5, P1623_6⟩ := hQ1623
      have N1627 := Fr.app N1606 N1623q
      have f1628 := f1624.trans ch1623
      refine GoH.step (fun _ k => st1623.trans k) ?_
      show GoH p e below s _ _ _ T1623 (mkF m 44 #[vi p1, vi p2, vi p3, .val cv3, .val cv3, vr uu112, vr uu132, vr b1599, .unset, .unset] [(.ref uu135)])
      have f1629 : Arv Z T1623.heap uu136 uu137 .byte ci7 [(.int (nar .byte ((nar .char (own_ch p1 ci0)).toInt8.toInt32))), (.int (nar .byte ((nar .char (own_ch p1 ci1)).toInt8.toInt32))), (.int (nar .byte ((nar .char (own_ch p1 ci2)).toInt8.toInt32))), cv58, (.int (nar .byte ((nar .char (own_ch p2 ci0)).toInt8.toInt32))), (.int (nar .byte ((nar .char (own_ch p2 ci1)).toInt8.toInt32))), (.int (nar .byte ((nar .char (own_ch p2 ci2)).toInt8.toInt32)))] cv0 := P1623_5
      refine GoH.step (fun _ k => XS.astore X1623.here hx rfl (hb hby at_44) rfl rfl (l' := #[vi p1, vi p2, vi p3, .val cv3, .val cv3, vr uu112, vr uu132, vr b1599, vr uu135, .unset]) rfl (XS.iloadN X1623.here hx rfl (hb hby at_46) rfl (XS.iconst X1623.here hx rfl (hb hby at_47) (XS.iadd X1623.here hx rfl (hb hby at_48) rfl (XS.iload X1623.here hx rfl (hb hby at_49) rfl (XS.iadd X1623.here hx rfl (hb hby at_51) rfl (XS.istore X1623.here hx rfl (hb hby at_52) rfl (l' := #[vi p1, vi p2, vi p3, .val cv3, .val cv3, vr uu112, vr uu132, vr b1599, vr uu135, .val cv7]) rfl (XS.aload X1623.here hx rfl (hb hby at_54) rfl rfl k)))))))) ?_
      show GoH p e below s _ _ _ T1623 (mkF m 56 #[vi p1, vi p2, vi p3, .val cv3, .val cv3, vr uu112, vr uu132, vr b1599, vr uu135, .val cv7] [(.ref uu135)])
      have f1630 := (f1607.keep K1623 all0)
      have f1631 := (Nat.le_trans f1608 K1623.1)
      obtain ⟨cq1632, kq1632, q1632a, q1632b, q1632c⟩ := isOf hZ1623 rfl P1623_1
      obtain ⟨_, _, ⟨T1632, L1632, k1632, n1632⟩, -, X1632, ⟨Lc1632, hQ1632, l1632, y1632, z1632⟩, st1632⟩ := X1623.virtualBack hx (y := xm19) (z := xm19) hown1623 (mvT hZ1623 (tw172 hw)) (mvT hZ1623 (tw90 hw)) (notFace_of_selects (args := #[]) (mvT hZ1623 (tw92 hw))) (mvT hZ1623 (tw92 hw)) (mvT hZ1623 (tw91 hw)) (by decide) (backOf (W := 0) (rm_String_length_0 l Z a0 hw [] uu135 uu136 uu137 ci7 ([(.int (nar .byte ((nar .char (own_ch p1 ci0)).toInt8.toInt32))), (.int (nar .byte ((nar .char (own_ch p1 ci1)).toInt8.toInt32))), (.int (nar .byte ((nar .char (own_ch p1 ci2)).toInt8.toInt32))), cv58, (.int (nar .byte ((nar .char (own_ch p2 ci0)).toInt8.toInt32))), (.int (nar .byte ((nar .char (own_ch p2 ci1)).toInt8.toInt32))), (.int (nar .byte ((nar .char (own_ch p2 ci2)).toInt8.toInt32)))]) cs T1623.heap n0 f1631 P1623_3 f1629 P1623_1 Z_S_COMPACT_STRINGS f1630 hcs P1623_2) hZ1623 (tw93 hw) (tw6 hw) (by decide) (by decide)) q1632a q1632c (g := (mkF m 56 #[vi p1, vi p2, vi p3, .val cv3, .val cv3, vr uu112, vr uu132, vr b1599, vr uu135, .val cv7] [(.ref uu135)])) rfl (by rw [hml]; rfl) (Steps.refl _) (argsL := []) (rest := []) (lenOf pd_8 rfl) rfl (Nat.le_of_eq rfl) (hb hby at_56) (fun _ _ => ⟨rfl, rfl, (by decide : 13 + 0 ≤ _), (by decide : 70 + 0 ≤ _)⟩)
      dsimp only [Pt.U, Pt.locs, Pt.cells, Pt.slots] at X1632 l1632 y1632 z1632 st1632 hQ1632
      subst l1632 y1632 z1632
      obtain ⟨rfl, N1632q, eq1632⟩ := hQ1632
      have N1633 := Fr.app N1627 N1632q
      refine GoH.step (fun _ k => st1632.trans (XS.iload X1632.here hx rfl (hb hby at_59) rfl (XS.icmpYes X1632.here hx rfl (pc0 := 61) (pc' := 66) rfl (hb hby at_61) rfl (teq (by decide)).1 (by decide) (by decide) (XS.aload X1632.here hx rfl (hb hby at_66) rfl rfl (XS.iconst X1632.here hx rfl (hb hby at_68) (XS.iload X1632.here hx rfl (hb hby at_69) rfl (XS.iloadN X1632.here hx rfl (hb hby at_71) rfl (XS.iloadN X1632.here hx rfl (hb hby at_72) rfl (XS.iloadN X1632.here hx rfl (hb hby at_73) rfl k))))))))) ?_
      show GoH p e below s _ _ _ T1632 (mkF m 74 #[vi p1, vi p2, vi p3, .val cv3, .val cv3, vr uu112, vr uu132, vr b1599, vr uu135, .val cv7] [(.int p2), (.int p1), cv3, cv7, cv0, (.ref uu135)])
      obtain ⟨_, _, ⟨T1634, L1634, k1634, n1634⟩, -, X1634, ⟨Lc1634, hQ1634, l1634, y1634, z1634⟩, st1634⟩ := Jvm.LawKit.callS X1632 hx (y := xm36) hown1623 (mvT hZ1623 (tw173 hw)) (mvT hZ1623 (tw174 hw)) (mvT hZ1623 (tw2 hw)) (mvT hZ1623 (tw175 hw)) (by decide) (backOf (W := 0) (rm_ObjectRefToStringPinLaw_ok_3 l Z a0 hw [] uu135 ci0 ci7 ci3 p1 p2 uu136 uu137 ci7 ([(.int (nar .byte ((nar .char (own_ch p1 ci0)).toInt8.toInt32))), (.int (nar .byte ((nar .char (own_ch p1 ci1)).toInt8.toInt32))), (.int (nar .byte ((nar .char (own_ch p1 ci2)).toInt8.toInt32))), cv58, (.int (nar .byte ((nar .char (own_ch p2 ci0)).toInt8.toInt32))), (.int (nar .byte ((nar .char (own_ch p2 ci1)).toInt8.toInt32))), (.int (nar .byte ((nar .char (own_ch p2 ci2)).toInt8.toInt32)))]) (nar .byte ((nar .char (own_ch p1 ci0)).toInt8.toInt32)) cs fv T1623.heap n0 f1631 (by decide) (by decide) P1623_1 P1623_2 P1623_3 f1629 rfl Z_S_COMPACT_STRINGS Z_S_SIOOBE_FORMATTER f1630 hcs hfv (by decide) (by decide) (own_rt p1 ci0)) hZ1623 (tw175 hw) (tw2 hw) (by decide) (by decide)) (g := (mkF m 74 #[vi p1, vi p2, vi p3, .val cv3, .val cv3, vr uu112, vr uu132, vr b1599, vr uu135, .val cv7] [(.int p2), (.int p1), cv3, cv7, cv0, (.ref uu135)])) rfl (by rw [hml]; rfl) (argsL := [(.ref uu135), cv0, cv7, cv3, (.int p1), (.int p2)]) (rest := []) (lenOf pd_24 rfl) rfl (Nat.le_of_eq rfl) (hb hby at_74) (fun _ _ => ⟨rfl, eq1632, (by decide : 13 + 0 ≤ _), (by decide : 70 + 0 ≤ _)⟩)
      dsimp only [Pt.U, Pt.locs, Pt.cells, Pt.slots] at X1634 l1634 y1634 z1634 st1634 hQ1634
      subst l1634 y1634 z1634
      obtain ⟨rfl, N1634q, eq1634⟩ := hQ1634
      have N1635 := Fr.app N1633 N1634q
      refine GoH.step (fun _ k => st1634 _ (XS.ifNo X1634.here hx rfl (hb hby at_77) rfl ((if0 _ _).trans (feq (by decide)).1) (XS.aload X1634.here hx rfl (hb hby at_80) rfl rfl (XS.iconst X1634.here hx rfl (hb hby at_82) (XS.iload X1634.here hx rfl (hb hby at_83) rfl (XS.iloadN X1634.here hx rfl (hb hby at_85) rfl (XS.iloadN X1634.here hx rfl (hb hby at_86) rfl (XS.iloadN X1634.here hx rfl (hb hby at_87) rfl k)))))))) ?_
      show GoH p e below s _ _ _ T1634 (mkF m 88 #[vi p1, vi p2, vi p3, .val cv3, .val cv3, vr uu112, vr uu132, vr b1599, vr uu135, .val cv7] [(.int p2), (.int p1), cv3, cv7, cv1, (.ref uu135)])
      obtain ⟨_, _, ⟨T1636, L1636, k1636, n1636⟩, -, X1636, ⟨Lc1636, hQ1636, l1636, y1636, z1636⟩, st1636⟩ := Jvm.LawKit.callS X1634 hx (y := xm36) hown1623 (mvT hZ1623 (tw173 hw)) (mvT hZ1623 (tw174 hw)) (mvT hZ1623 (tw2 hw)) (mvT hZ1623 (tw175 hw)) (by decide) (backOf (W := 0) (rm_ObjectRefToStringPinLaw_ok_3 l Z a0 hw [] uu135 ci1 ci7 ci3 p1 p2 uu136 uu137 ci7 ([(.int (nar .byte ((nar .char (own_ch p1 ci0)).toInt8.toInt32))), (.int (nar .byte ((nar .char (own_ch p1 ci1)).toInt8.toInt32))), (.int (nar .byte ((nar .char (own_ch p1 ci2)).toInt8.toInt32))), cv58, (.int (nar .byte ((nar .char (own_ch p2 ci0)).toInt8.toInt32))), (.int (nar .byte ((nar .char (own_ch p2 ci1)).toInt8.toInt32))), (.int (nar .byte ((nar .char (own_ch p2 ci2)).toInt8.toInt32)))]) (nar .byte ((nar .char (own_ch p1 ci1)).toInt8.toInt32)) cs fv T1623.heap n0 f1631 (by decide) (by decide) P1623_1 P1623_2 P1623_3 f1629 rfl Z_S_COMPACT_STRINGS Z_S_SIOOBE_FORMATTER f1630 hcs hfv (by decide) (by decide) (own_rt p1 ci1)) hZ1623 (tw175 hw) (tw2 hw) (by decide) (by decide)) (g := (mkF m 88 #[vi p1, vi p2, vi p3, .val cv3, .val cv3, vr uu112, vr uu132, vr b1599, vr uu135, .val cv7] [(.int p2), (.int p1), cv3, cv7, cv1, (.ref uu135)])) rfl (by rw [hml]; rfl) (argsL := [(.ref uu135), cv1, cv7, cv3, (.int p1), (.int p2)]) (rest := []) (lenOf pd_24 rfl) rfl (Nat.le_of_eq rfl) (hb hby at_88) (fun _ _ => ⟨rfl, eq1634, (by decide : 13 + 0 ≤ _), (by decide : 70 + 0 ≤ _)⟩)
      dsimp only [Pt.U, Pt.locs, Pt.cells, Pt.slots] at X1636 l1636 y1636 z1636 st1636 hQ1636
      subst l1636 y1636 z1636
      obtain ⟨rfl, N1636q, eq1636⟩ := hQ1636
      have N1637 := Fr.app N1635 N1636q
      refine GoH.step (fun _ k => st1636 _ (XS.ifNo X1636.here hx rfl (hb hby at_91) rfl ((if0 _ _).trans (feq (by decide)).1) (XS.aload X1636.here hx rfl (hb hby at_94) rfl rfl (XS.iconst X1636.here hx rfl (hb hby at_96) (XS.iload X1636.here hx rfl (hb hby at_97) rfl (XS.iloadN X1636.here hx rfl (hb hby at_99) rfl (XS.iloadN X1636.here hx rfl (hb hby at_100) rfl (XS.iloadN X1636.here hx rfl (hb hby at_101) rfl k)))))))) ?_
      show GoH p e below s _ _ _ T1636 (mkF m 102 #[vi p1, vi p2, vi p3, .val cv3, .val cv3, vr uu112, vr uu132, vr b1599, vr uu135, .val cv7] [(.int p2), (.int p1), cv3, cv7, cv2, (.ref uu135)])
      obtain ⟨_, _, ⟨T1638, L1638, k1638, n1638⟩, -, X1638, ⟨Lc1638, hQ1638, l1638, y1638, z1638⟩, st1638⟩ := Jvm.LawKit.callS X1636 hx (y := xm36) hown1623 (mvT hZ1623 (tw173 hw)) (mvT hZ1623 (tw174 hw)) (mvT hZ1623 (tw2 hw)) (mvT hZ1623 (tw175 hw)) (by decide) (backOf (W := 0) (rm_ObjectRefToStringPinLaw_ok_3 l Z a0 hw [] uu135 ci2 ci7 ci3 p1 p2 uu136 uu137 ci7 ([(.int (nar .byte ((nar .char (own_ch p1 ci0)).toInt8.toInt32))), (.int (nar .byte ((nar .char (own_ch p1 ci1)).toInt8.toInt32))), (.int (nar .byte ((nar .char (own_ch p1 ci2)).toInt8.toInt32))), cv58, (.int (nar .byte ((nar .char (own_ch p2 ci0)).toInt8.toInt32))), (.int (nar .byte ((nar .char (own_ch p2 ci1)).toInt8.toInt32))), (.int (nar .byte ((nar .char (own_ch p2 ci2)).toInt8.toInt32)))]) (nar .byte ((nar .char (own_ch p1 ci2)).toInt8.toInt32)) cs fv T1623.heap n0 f1631 (by decide) (by decide) P1623_1 P1623_2 P1623_3 f1629 rfl Z_S_COMPACT_STRINGS Z_S_SIOOBE_FORMATTER f1630 hcs hfv (by decide) (by decide) (own_rt p1 ci2)) hZ1623 (tw175 hw) (tw2 hw) (by decide) (by decide)) (g := (mkF m 102 #[vi p1, vi p2, vi p3, .val cv3, .val cv3, vr uu112, vr uu132, vr b1599, vr uu135, .val cv7] [(.int p2), (.int p1), cv3, cv7, cv2, (.ref uu135)])) rfl (by rw [hml]; rfl) (argsL := [(.ref uu135), cv2, cv7, cv3, (.int p1), (.int p2)]) (rest := []) (lenOf pd_24 rfl) rfl (Nat.le_of_eq rfl) (hb hby at_102) (fun _ _ => ⟨rfl, eq1636, (by decide : 13 + 0 ≤ _), (by decide : 70 + 0 ≤ _)⟩)
      dsimp only [Pt.U, Pt.locs, Pt.cells, Pt.slots] at X1638 l1638 y1638 z1638 st1638 hQ1638
      subst l1638 y1638 z1638
      obtain ⟨rfl, N1638q, eq1638⟩ := hQ1638
      have N1639 := Fr.app N1637 N1638q
      refine GoH.step (fun _ k => st1638 _ (XS.ifNo X1638.here hx rfl (hb hby at_105) rfl ((if0 _ _).trans (feq (by decide)).1) (XS.aload X1638.here hx rfl (hb hby at_108) rfl rfl (XS.iconst X1638.here hx rfl (hb hby at_110) (XS.iload X1638.here hx rfl (hb hby at_111) rfl (XS.iloadN X1638.here hx rfl (hb hby at_113) rfl (XS.iloadN X1638.here hx rfl (hb hby at_114) rfl (XS.iloadN X1638.here hx rfl (hb hby at_115) rfl k)))))))) ?_
      show GoH p e below s _ _ _ T1638 (mkF m 116 #[vi p1, vi p2, vi p3, .val cv3, .val cv3, vr uu112, vr uu132, vr b1599, vr uu135, .val cv7] [(.int p2), (.int p1), cv3, cv7, cv3, (.ref uu135)])
      obtain ⟨_, _, ⟨T1640, L1640, k1640, n1640⟩, -, X1640, ⟨Lc1640, hQ1640, l1640, y1640, z1640⟩, st1640⟩ := Jvm.LawKit.callS X1638 hx (y := xm36) hown1623 (mvT hZ1623 (tw173 hw)) (mvT hZ1623 (tw174 hw)) (mvT hZ1623 (tw2 hw)) (mvT hZ1623 (tw175 hw)) (by decide) (backOf (W := 0) (rm_ObjectRefToStringPinLaw_ok_0 l Z a0 hw [] uu135 ci3 ci7 ci3 p1 p2 cs uu136 uu137 ci7 ([(.int (nar .byte ((nar .char (own_ch p1 ci0)).toInt8.toInt32))), (.int (nar .byte ((nar .char (own_ch p1 ci1)).toInt8.toInt32))), (.int (nar .byte ((nar .char (own_ch p1 ci2)).toInt8.toInt32))), cv58, (.int (nar .byte ((nar .char (own_ch p2 ci0)).toInt8.toInt32))), (.int (nar .byte ((nar .char (own_ch p2 ci1)).toInt8.toInt32))), (.int (nar .byte ((nar .char (own_ch p2 ci2)).toInt8.toInt32)))]) fv ci58 T1623.heap n0 f1631 (by decide) (by decide) rfl P1623_1 Z_S_COMPACT_STRINGS f1630 hcs P1623_2 P1623_3 f1629 Z_S_SIOOBE_FORMATTER hfv rfl (by decide) (by decide) (by decide)) hZ1623 (tw175 hw) (tw2 hw) (by decide) (by decide)) (g := (mkF m 116 #[vi p1, vi p2, vi p3, .val cv3, .val cv3, vr uu112, vr uu132, vr b1599, vr uu135, .val cv7] [(.int p2), (.int p1), cv3, cv7, cv3, (.ref uu135)])) rfl (by rw [hml]; rfl) (argsL := [(.ref uu135), cv3, cv7, cv3, (.int p1), (.int p2)]) (rest := []) (lenOf pd_24 rfl) rfl (Nat.le_of_eq rfl) (hb hby at_116) (fun _ _ => ⟨rfl, eq1638, (by decide : 13 + 0 ≤ _), (by decide : 70 + 0 ≤ _)⟩)
      dsimp only [Pt.U, Pt.locs, Pt.cells, Pt.slots] at X1640 l1640 y1640 z1640 st1640 hQ1640
      subst l1640 y1640 z1640
      obtain ⟨rfl, N1640q, eq1640⟩ := hQ1640
      have N1641 := Fr.app N1639 N1640q
      refine GoH.step (fun _ k => st1640 _ (XS.ifNo X1640.here hx rfl (hb hby at_119) rfl ((if0 _ _).trans (feq (by decide)).1) (XS.aload X1640.here hx rfl (hb hby at_122) rfl rfl (XS.iconst X1640.here hx rfl (hb hby at_124) (XS.iload X1640.here hx rfl (hb hby at_125) rfl (XS.iloadN X1640.here hx rfl (hb hby at_127) rfl (XS.iloadN X1640.here hx rfl (hb hby at_128) rfl (XS.iloadN X1640.here hx rfl (hb hby at_129) rfl k)))))))) ?_
      show GoH p e below s _ _ _ T1640 (mkF m 130 #[vi p1, vi p2, vi p3, .val cv3, .val cv3, vr uu112, vr uu132, vr b1599, vr uu135, .val cv7] [(.int p2), (.int p1), cv3, cv7, cv4, (.ref uu135)])
      obtain ⟨_, _, ⟨T1642, L1642, k1642, n1642⟩, -, X1642, ⟨Lc1642, hQ1642, l1642, y1642, z1642⟩, st1642⟩ := Jvm.LawKit.callS X1640 hx (y := xm36) hown1623 (mvT hZ1623 (tw173 hw)) (mvT hZ1623 (tw174 hw)) (mvT hZ1623 (tw2 hw)) (mvT hZ1623 (tw175 hw)) (by decide) (backOf (W := 0) (rm_ObjectRefToStringPinLaw_ok_2 l Z a0 hw [] uu135 ci4 ci7 ci3 p1 p2 uu136 uu137 ci7 ([(.int (nar .byte ((nar .char (own_ch p1 ci0)).toInt8.toInt32))), (.int (nar .byte ((nar .char (own_ch p1 ci1)).toInt8.toInt32))), (.int (nar .byte ((nar .char (own_ch p1 ci2)).toInt8.toInt32))), cv58, (.int (nar .byte ((nar .char (own_ch p2 ci0)).toInt8.toInt32))), (.int (nar .byte ((nar .char (own_ch p2 ci1)).toInt8.toInt32))), (.int (nar .byte ((nar .char (own_ch p2 ci2)).toInt8.toInt32)))]) (nar .byte ((nar .char (own_ch p2 ci0)).toInt8.toInt32)) cs fv T1623.heap n0 f1631 (by decide) (by decide) (by decide) P1623_1 P1623_2 P1623_3 f1629 rfl Z_S_COMPACT_STRINGS Z_S_SIOOBE_FORMATTER f1630 hcs hfv (by decide) (by decide) (own_rt p2 ci0)) hZ1623 (tw175 hw) (tw2 hw) (by decide) (by decide)) (g := (mkF m 130 #[vi p1, vi p2, vi p3, .val cv3, .val cv3, vr uu112, vr uu132, vr b1599, vr uu135, .val cv7] [(.int p2), (.int p1), cv3, cv7, cv4, (.ref uu135)])) rfl (by rw [hml]; rfl) (argsL := [(.ref uu135), cv4, cv7, cv3, (.int p1), (.int p2)]) (rest := []) (lenOf pd_24 rfl) rfl (Nat.le_of_eq rfl) (hb hby at_130) (fun _ _ => ⟨rfl, eq1640, (by decide : 13 + 0 ≤ _), (by decide : 70 + 0 ≤ _)⟩)
      dsimp only [Pt.U, Pt.locs, Pt.cells, Pt.slots] at X1642 l1642 y1642 z1642 st1642 hQ1642
      subst l1642 y1642 z1642
      obtain ⟨rfl, N1642q, eq1642⟩ := hQ1642
      have N1643 := Fr.app N1641 N1642q
      refine GoH.step (fun _ k => st1642 _ (XS.ifNo X1642.here hx rfl (hb hby at_133) rfl ((if0 _ _).trans (feq (by decide)).1) (XS.aload X1642.here hx rfl (hb hby at_136) rfl rfl (XS.iconst X1642.here hx rfl (hb hby at_138) (XS.iload X1642.here hx rfl (hb hby at_139) rfl (XS.iloadN X1642.here hx rfl (hb hby at_141) rfl (XS.iloadN X1642.here hx rfl (hb hby at_142) rfl (XS.iloadN X1642.here hx rfl (hb hby at_143) rfl k)))))))) ?_
      show GoH p e below s _ _ _ T1642 (mkF m 144 #[vi p1, vi p2, vi p3, .val cv3, .val cv3, vr uu112, vr uu132, vr b1599, vr uu135, .val cv7] [(.int p2), (.int p1), cv3, cv7, cv5, (.ref uu135)])
      obtain ⟨_, _, ⟨T1644, L1644, k1644, n1644⟩, -, X1644, ⟨Lc1644, hQ1644, l1644, y1644, z1644⟩, st1644⟩ := Jvm.LawKit.callS X1642 hx (y := xm36) hown1623 (mvT hZ1623 (tw173 hw)) (mvT hZ1623 (tw174 hw)) (mvT hZ1623 (tw2 hw)) (mvT hZ1623 (tw175 hw)) (by decide) (backOf (W := 0) (rm_ObjectRefToStringPinLaw_ok_2 l Z a0 hw [] uu135 ci5 ci7 ci3 p1 p2 uu136 uu137 ci7 ([(.int (nar .byte ((nar .char (own_ch p1 ci0)).toInt8.toInt32))), (.int (nar .byte ((nar .char (own_ch p1 ci1)).toInt8.toInt32))), (.int (nar .byte ((nar .char (own_ch p1 ci2)).toInt8.toInt32))), cv58, (.int (nar .byte ((nar .char (own_ch p2 ci0)).toInt8.toInt32))), (.int (nar .byte ((nar .char (own_ch p2 ci1)).toInt8.toInt32))), (.int (nar .byte ((nar .char (own_ch p2 ci2)).toInt8.toInt32)))]) (nar .byte ((nar .char (own_ch p2 ci1)).toInt8.toInt32)) cs fv T1623.heap n0 f1631 (by decide) (by decide) (by decide) P1623_1 P1623_2 P1623_3 f1629 rfl Z_S_COMPACT_STRINGS Z_S_SIOOBE_FORMATTER f1630 hcs hfv (by decide) (by decide) (own_rt p2 ci1)) hZ1623 (tw175 hw) (tw2 hw) (by decide) (by decide)) (g := (mkF m 144 #[vi p1, vi p2, vi p3, .val cv3, .val cv3, vr uu112, vr uu132, vr b1599, vr uu135, .val cv7] [(.int p2), (.int p1), cv3, cv7, cv5, (.ref uu135)])) rfl (by rw [hml]; rfl) (argsL := [(.ref uu135), cv5, cv7, cv3, (.int p1), (.int p2)]) (rest := []) (lenOf pd_24 rfl) rfl (Nat.le_of_eq rfl) (hb hby at_144) (fun _ _ => ⟨rfl, eq1642, (by decide : 13 + 0 ≤ _), (by decide : 70 + 0 ≤ _)⟩)
      dsimp only [Pt.U, Pt.locs, Pt.cells, Pt.slots] at X1644 l1644 y1644 z1644 st1644 hQ1644
      subst l1644 y1644 z1644
      obtain ⟨rfl, N1644q, eq1644⟩ := hQ1644
      have N1645 := Fr.app N1643 N1644q
      refine GoH.step (fun _ k => st1644 _ (XS.ifNo X1644.here hx rfl (hb hby at_147) rfl ((if0 _ _).trans (feq (by decide)).1) (XS.aload X1644.here hx rfl (hb hby at_150) rfl rfl (XS.bipush X1644.here hx rfl (hb hby at_152) (XS.iload X1644.here hx rfl (hb hby at_154) rfl (XS.iloadN X1644.here hx rfl (hb hby at_156) rfl (XS.iloadN X1644.here hx rfl (hb hby at_157) rfl (XS.iloadN X1644.here hx rfl (hb hby at_158) rfl k)))))))) ?_
      show GoH p e below s _ _ _ T1644 (mkF m 159 #[vi p1, vi p2, vi p3, .val cv3, .val cv3, vr uu112, vr uu132, vr b1599, vr uu135, .val cv7] [(.int p2), (.int p1), cv3, cv7, cv6, (.ref uu135)])
      obtain ⟨_, _, ⟨T1646, L1646, k1646, n1646⟩, -, X1646, ⟨Lc1646, hQ1646, l1646, y1646, z1646⟩, st1646⟩ := Jvm.LawKit.callS X1644 hx (y := xm36) hown1623 (mvT hZ1623 (tw173 hw)) (mvT hZ1623 (tw174 hw)) (mvT hZ1623 (tw2 hw)) (mvT hZ1623 (tw175 hw)) (by decide) (backOf (W := 0) (rm_ObjectRefToStringPinLaw_ok_2 l Z a0 hw [] uu135 ci6 ci7 ci3 p1 p2 uu136 uu137 ci7 ([(.int (nar .byte ((nar .char (own_ch p1 ci0)).toInt8.toInt32))), (.int (nar .byte ((nar .char (own_ch p1 ci1)).toInt8.toInt32))), (.int (nar .byte ((nar .char (own_ch p1 ci2)).toInt8.toInt32))), cv58, (.int (nar .byte ((nar .char (own_ch p2 ci0)).toInt8.toInt32))), (.int (nar .byte ((nar .char (own_ch p2 ci1)).toInt8.toInt32))), (.int (nar .byte ((nar .char (own_ch p2 ci2)).toInt8.toInt32)))]) (nar .byte ((nar .char (own_ch p2 ci2)).toInt8.toInt32)) cs fv T1623.heap n0 f1631 (by decide) (by decide) (by decide) P1623_1 P1623_2 P1623_3 f1629 rfl Z_S_COMPACT_STRINGS Z_S_SIOOBE_FORMATTER f1630 hcs hfv (by decide) (by decide) (own_rt p2 ci2)) hZ1623 (tw175 hw) (tw2 hw) (by decide) (by decide)) (g := (mkF m 159 #[vi p1, vi p2, vi p3, .val cv3, .val cv3, vr uu112, vr uu132, vr b1599, vr uu135, .val cv7] [(.int p2), (.int p1), cv3, cv7, cv6, (.ref uu135)])) rfl (by rw [hml]; rfl) (argsL := [(.ref uu135), cv6, cv7, cv3, (.int p1), (.int p2)]) (rest := []) (lenOf pd_24 rfl) rfl (Nat.le_of_eq rfl) (hb hby at_159) (fun _ _ => ⟨rfl, eq1644, (by decide : 13 + 0 ≤ _), (by decide : 70 + 0 ≤ _)⟩)
      dsimp only [Pt.U, Pt.locs, Pt.cells, Pt.slots] at X1646 l1646 y1646 z1646 st1646 hQ1646
      subst l1646 y1646 z1646
      obtain ⟨rfl, N1646q, eq1646⟩ := hQ1646
      have N1647 := Fr.app N1645 N1646q
      refine GoH.step (fun _ k => st1646 _ (XS.ifNo X1646.here hx rfl (hb hby at_162) rfl ((if0 _ _).trans (feq (by decide)).1) (XS.iconst X1646.here hx rfl (hb hby at_165) (XS.goto X1646.here hx rfl (pc0 := 166) (pc' := 170) rfl (hb hby at_166) (by decide) (by decide) k)))) ?_
      show GoH p e below s _ _ _ T1646 (mkF m 170 #[vi p1, vi p2, vi p3, .val cv3, .val cv3, vr uu112, vr uu132, vr b1599, vr uu135, .val cv7] [cv1])
      exact GoH.retN X1646 hS1623 hx hlk (t := .boolean) Bd.returns (by simp) (hb hby at_170) eq1646 (Nat.le_refl _) ⟨rfl, N1647⟩ (f1628.trans (CHv.at X1646 hZ1623 (own_EW hw) f1628.1)) (by decide) (by decide)

set_option maxRecDepth 65536 in
set_option maxHeartbeats 40000000 in
theorem comes_1 {Post : Tables → Env → Array Value → State → Outcome → State → Prop} (hpost : ∀ tb e args s v u, (limb_1_1.after args s (.returned v) u = true ∧ limb_1_2.after args s (.returned v) u = true ∧ True) → ReturnedEndW s (.returned v) u (Jvm.fieldLocs frame_1_writes args s ++ Jvm.arrayLocs frame_1_arrays args s ++ Jvm.staticLocs frame_1_statics s) 40 2240 → Post tb e args s (.returned v) u) :
    ArmFor flags0 classFile x code maxLocals ret World_1 tables_1 room_1 Calls_1 rest_1 Pre_1 Post := by
  intro l hfl _ _ p e ha hc hk s m args below hf hA hF happ hP
  obtain ⟨hcalls, hrest, hpre⟩ := hP
  obtain ⟨-, -, -, hnamed, -, -, -, hat⟩ := (Spec.applies_iff hf).mp happ
  obtain ⟨hg, hn⟩ := and_e (Cond.before_iff.mp (show (Jvm.Cond.and given_1 narrow_1).before args s = true from hpre))
  obtain ⟨gv1, gv2⟩ := and_e hg
  obtain ⟨gv3, gv4⟩ := and_e gv2
  obtain ⟨gv5, gv6⟩ := and_e gv4
  obtain ⟨w0, w1, w2, rfl⟩ : ∃ w0 w1 w2 : Value, args = #[w0, w1, w2] := by
    have hs : args.size = 3 := by simpa [Cond.value, given_1] using gv1
    obtain ⟨L⟩ := args
    match L, hs with
    | [w0, w1, w2], _ => exact ⟨w0, w1, w2, rfl⟩
  have hw := fun d (hd : d ∈ tables_1) => atoms_spec (ws := Jvm.Cond.code x code maxLocals ret :: tables_1) hat d (List.mem_cons_of_mem _ hd)
  have hfit : Fit s := fun {y c} hc i hi => by
    obtain ⟨ha, rfl⟩ := Array.getElem?_eq_some_iff.mp hc
    have q := List.all_eq_true.mp ((Array.all_eq_true_iff_forall_mem.mp hF) _ (Array.getElem_mem ha)) i (List.mem_range.mpr hi)
    simpa [Array.getElem?_eq_getElem hi] using q
  obtain ⟨i0, ei0⟩ := is_v gv3
  obtain rfl : w0 = (.int i0) := Option.some.inj ei0
  obtain ⟨i1, ei1⟩ := is_v gv5
  obtain rfl : w1 = (.int i1) := Option.some.inj ei1
  obtain ⟨i2, ei2⟩ := is_v gv6
  obtain rfl : w2 = (.int i2) := Option.some.inj ei2
  obtain ⟨hsets, hown0⟩ := atoms_of _ (rest_1_c_eq ▸ (show rest_1_c.before _ s = true from hrest))
  obtain ⟨cs, ecs⟩ := is_v (Cond.before_iff.mp (hsets _ (List.mem_of_getElem? (i := 1) rfl)))
  have Z_S_COMPACT_STRINGS := Sta.start ecs (Or.inl (hsets _ (List.mem_of_getElem? (i := 0) rfl)))
  have hcs : ¬ cs = ci0 := gotF (Cond.eq_ints ecs (Term.int_eval _)) (not_v (Cond.before_iff.mp (hsets _ (List.mem_of_getElem? (i := 2) rfl))))
  obtain ⟨fv, efv, hfv⟩ := isR_v (Cond.before_iff.mp (hsets _ (List.mem_of_getElem? (i := 8) rfl)))
  have Z_S_SIOOBE_FORMATTER := Sta.start efv (Or.inl (hsets _ (List.mem_of_getElem? (i := 7) rfl)))
  have hCH : CHv s consts_1 s.vm s.heap := CHv.start (own_EW hw) hcalls.1 (hsets _ (List.mem_of_getElem? (i := 2) rfl)) (tw26 hw) (tw5 hw)
  obtain ⟨n, o, h1, h2, h3, _, L, rfl, ⟨rfl, N⟩, -, hq⟩ := rm_law l s _ hw tables_1 i0 i1 i2 cs fv s.heap s.heap.size (Nat.le_refl _) (Old.start s) Z_S_COMPACT_STRINGS hcs Z_S_SIOOBE_FORMATTER hfv p e ha hc hk s m _ below hf ((Spec.applies_iff_loose hf).mp happ).1 ⟨rfl, State.Warmed39.refl s, rfl, hCH⟩ trivial
  refine ⟨n, _, h1, h2, h3, hpost _ _ _ _ _ _ ⟨Cond.after_iff.mpr rfl, Cond.after_iff.mpr (eq_i res_at (Term.int_eval (1)) rfl), trivial⟩ ⟨hq.1, hq.2.1, hq.2.2.1, (hq.2.2.2.sift fun y hy => Or.inr (N y hy)).mono (by decide) (by decide)⟩⟩
theorem main_1_1 : Claimed_1_1 := comes_1 fun _ _ _ _ _ _ h hF => ⟨h.1, hF⟩
theorem main_1_2 : Claimed_1_2 := comes_1 fun _ _ _ _ _ _ h hF => ⟨h.2.1, hF⟩
end Jvm.Pilot.@@N@@
namespace Jvm.Pilot.@@N@@
open Jvm Jvm.ClassFile Sem Op Lib Jvm.Free Jvm.Stand Jvm.Pilot.@@N@@.Jvm.D
/-! MADE BY PROGRAM (witnessworld.py) out of the Statement's table words and the real class files: 28 classes; the members and pool entries that the words name. The judged class is class 1, her method 1. -/
namespace start1
open Jvm.ClassFile
def u (s : String) : CpInfo := .utf8 (stringToUtf16 s)
/-- a pool by its gaps: so many unusable entries, then the entry; so many at the end -/
def gap : Nat → List CpInfo → List CpInfo
  | 0, r => r
  | n + 1, r => .unusable :: gap n r
def poolList (es : List (Nat × CpInfo)) (last : Nat) : List CpInfo := es.foldr (fun e r => gap e.1 (e.2 :: r)) (gap last [])
def pool (es : List (Nat × CpInfo)) (last : Nat) : Array CpInfo := ⟨poolList es last⟩
def fileOf (pool : Array CpInfo) (this : Nat) (attrs : Array Attribute := #[]) (ms : Array MethodInfo := #[]) (fl : Nat := 33) (sup : Nat := 0) (ifs : Array Nat := #[]) (fds : Array FieldInfo := #[]) : ClassFile where
  minorVersion := 0
  majorVersion := 65
  constantPool := pool
  accessFlags := fl
  thisClass := this
  superClass := sup
  interfaces := ifs
  fields := fds
  methods := ms
  attributes := attrs
def plain (name : String) (sup : Option ClassId) : Class where
  name := name
  kind := .ordinary
  loader := none
  accessFlags := 33
  super := sup
  interfaces := #[]
  cf := none
  fields := #[]
  methods := #[]
  instanceTypes := #[]
  staticTypes := #[]
  resolved := #[]
  callSites := []
  init := .initialized
  statics := none
  mirror := none

def pool0 : Array CpInfo := pool [(5, u "<init>"), (0, u "()V"), (1, .class_ 10), (1, u "java/lang/Object")] 113

def k0c0 : Code := { maxStack := 0, maxLocals := 1, code := object_method_1_code, exceptionTable := #[], attributes := #[] }
def k0m0 : Method := { name := "<init>", desc := "()V", sig := { parameters := [], returnType := none }, accessFlags := 1, code := some k0c0 }
/-- java/lang/Object -/
def k0 : Class := { plain "java/lang/Object" none with
  accessFlags := 33
  interfaces := #[]
  cf := some (fileOf pool0 8 #[] #[{ accessFlags := 1, nameIndex := 5, descriptorIndex := 6, attributes := #[] }] 33 0 #[] #[])
  fields := #[]
  methods := #[k0m0]
  instanceTypes := #[]
  staticTypes := #[]
  resolved := Array.replicate 124 none
  statics := none }

def pool1 : Array CpInfo := pool [(2, .class_ 4), (1, u "java/lang/Object"), (0, u "<init>"), (0, u "()V"), (0, .methodref 8 9), (0, .class_ 10), (0, .nameAndType 11 12), (0, u "com/example/grantgraph/grantgraph/store/ObjectRefToStringPinLaw"), (0, u "make"), (0, u "(II)Ljava/lang/String;"), (0, .class_ 14), (0, u "com/example/grantgraph/grantgraph/store/ObjectRef"), (0, .methodref 13 16), (0, .nameAndType 5 17), (0, u "(Ljava/lang/String;Ljava/lang/String;)V"), (0, .methodref 13 19), (0, .nameAndType 20 21), (0, u "toString"), (0, u "()Ljava/lang/String;"), (0, .methodref 23 24), (0, .class_ 25), (0, .nameAndType 26 27), (0, u "java/lang/String"), (0, u "length"), (0, u "()I"), (0, .methodref 8 29), (0, .nameAndType 30 31), (0, u "ok"), (0, u "(Ljava/lang/String;IIIII)Z"), (0, .methodref 8 33), (0, .nameAndType 34 35), (0, u "ch"), (0, u "(II)C"), (0, .methodref 23 37), (0, .nameAndType 38 39), (0, u "charAt"), (0, u "(I)C"), (0, .methodref 23 41), (0, .nameAndType 5 42), (0, u "([C)V"), (2, u "law"), (0, u "(III)Z")] 3

def k1m0 : Method := { name := "<init>", desc := "()V", sig := { parameters := [], returnType := none }, accessFlags := 1, code := none }
def k1c1 : Code := { maxStack := 6, maxLocals := 10, code := code, exceptionTable := #[], attributes := #[] }
def k1m1 : Method := { name := "law", desc := "(III)Z", sig := { parameters := [.int, .int, .int], returnType := some .boolean }, accessFlags := 9, code := some k1c1 }
def k1c2 : Code := { maxStack := 3, maxLocals := 7, code := method_3_code, exceptionTable := #[], attributes := #[] }
def k1m2 : Method := { name := "ok", desc := "(Ljava/lang/String;IIIII)Z", sig := { parameters := [(.object "java/lang/String"), .int, .int, .int, .int, .int], returnType := some .boolean }, accessFlags := 10, code := some k1c2 }
def k1c3 : Code := { maxStack := 3, maxLocals := 2, code := method_4_code, exceptionTable := #[], attributes := #[] }
def k1m3 : Method := { name := "ch", desc := "(II)C", sig := { parameters := [.int, .int], returnType := some .char }, accessFlags := 10, code := some k1c3 }
def k1c4 : Code := { maxStack := 7, maxLocals := 2, code := method_5_code, exceptionTable := #[], attributes := #[] }
def k1m4 : Method := { name := "make", desc := "(II)Ljava/lang/String;", sig := { parameters := [.int, .int], returnType := some (.object "java/lang/String") }, accessFlags := 10, code := some k1c4 }
/-- com/example/grantgraph/grantgraph/store/ObjectRefToStringPinLaw -/
def k1 : Class := { plain "com/example/grantgraph/grantgraph/store/ObjectRefToStringPinLaw" (some 0) with
  accessFlags := 49
  interfaces := #[]
  cf := some (fileOf pool1 8 #[] #[{ accessFlags := 1, nameIndex := 5, descriptorIndex := 6, attributes := #[] }, { accessFlags := 9, nameIndex := 45, descriptorIndex := 46, attributes := #[] }, { accessFlags := 10, nameIndex := 30, descriptorIndex := 31, attributes := #[] }, { accessFlags := 10, nameIndex := 34, descriptorIndex := 35, attributes := #[] }, { accessFlags := 10, nameIndex := 11, descriptorIndex := 12, attributes := #[] }] 49 2 #[] #[])
  fields := #[]
  methods := #[k1m0, k1m1, k1m2, k1m3, k1m4]
  instanceTypes := #[]
  staticTypes := #[]
  resolved := Array.replicate 50 none
  statics := none }

def pool2 : Array CpInfo := pool [(1, .class_ 2), (0, u "java/io/Serializable"), (0, .class_ 4), (0, u "java/lang/Object")] 2

/-- java/io/Serializable -/
def k2 : Class := { plain "java/io/Serializable" (some 0) with
  accessFlags := 1537
  interfaces := #[]
  cf := some (fileOf pool2 1 #[] #[] 1537 3 #[] #[])
  fields := #[]
  methods := #[]
  instanceTypes := #[]
  staticTypes := #[]
  resolved := Array.replicate 7 none
  statics := none }

def pool3 : Array CpInfo := pool [(1, .class_ 2), (0, u "java/lang/Comparable"), (0, .class_ 4), (0, u "java/lang/Object")] 7

/-- java/lang/Comparable -/
def k3 : Class := { plain "java/lang/Comparable" (some 0) with
  accessFlags := 1537
  interfaces := #[]
  cf := some (fileOf pool3 1 #[] #[] 1537 3 #[] #[])
  fields := #[]
  methods := #[]
  instanceTypes := #[]
  staticTypes := #[]
  resolved := Array.replicate 12 none
  statics := none }

def pool4 : Array CpInfo := pool [(2, .class_ 4), (1, u "java/lang/CharSequence"), (42, .class_ 48), (0, u "java/lang/CharSequence$1CodePointIterator"), (10, .class_ 60), (0, u "java/lang/CharSequence$1CharIterator"), (5, .class_ 67), (0, u "java/lang/Object")] 63

/-- java/lang/CharSequence -/
def k4 : Class := { plain "java/lang/CharSequence" (some 0) with
  accessFlags := 1537
  interfaces := #[]
  cf := some (fileOf pool4 2 #[.nestMembers #[47, 59]] #[] 1537 66 #[] #[])
  fields := #[]
  methods := #[]
  instanceTypes := #[]
  staticTypes := #[]
  resolved := Array.replicate 131 none
  statics := none }

def pool5 : Array CpInfo := pool [(1, .class_ 2), (0, u "java/lang/constant/Constable"), (0, .class_ 4), (0, u "java/lang/Object")] 6

/-- java/lang/constant/Constable -/
def k5 : Class := { plain "java/lang/constant/Constable" (some 0) with
  accessFlags := 1537
  interfaces := #[]
  cf := some (fileOf pool5 1 #[] #[] 1537 3 #[] #[])
  fields := #[]
  methods := #[]
  instanceTypes := #[]
  staticTypes := #[]
  resolved := Array.replicate 11 none
  statics := none }

def pool6 : Array CpInfo := pool [(1, .class_ 2), (0, u "java/lang/constant/ConstantDesc"), (0, .class_ 4), (0, u "java/lang/Object")] 32

/-- java/lang/constant/ConstantDesc -/
def k6 : Class := { plain "java/lang/constant/ConstantDesc" (some 0) with
  accessFlags := 1537
  interfaces := #[]
  cf := some (fileOf pool6 1 #[] #[] 1537 3 #[] #[])
  fields := #[]
  methods := #[]
  instanceTypes := #[]
  staticTypes := #[]
  resolved := Array.replicate 37 none
  statics := none }

def pool7 : Array CpInfo := pool [(1, .methodref 2 3), (0, .class_ 4), (0, .nameAndType 5 6), (0, u "java/lang/Object"), (0, u "<init>"), (0, u "()V"), (0, .string 8), (0, u ""), (0, .fieldref 10 11), (0, .class_ 12), (0, .nameAndType 13 14), (0, u "java/lang/String"), (0, u "value"), (0, u "[B"), (0, .fieldref 10 16), (0, .nameAndType 17 18), (0, u "coder"), (0, u "B"), (2, u "hash"), (0, u "I"), (2, u "hashIsZero"), (0, u "Z"), (0, .methodref 10 28), (0, .nameAndType 5 29), (0, u "([CIILjava/lang/Void;)V"), (8, .fieldref 10 39), (0, .nameAndType 40 26), (0, u "COMPACT_STRINGS"), (1, .class_ 44), (1, u "java/lang/StringUTF16"), (0, u "compress"), (1, .methodref 42 48), (0, .nameAndType 49 50), (0, u "coderFromArrayLen"), (0, u "([BI)B"), (3, .methodref 55 56), (0, .class_ 57), (0, .nameAndType 58 59), (0, u "java/util/Arrays"), (0, u "copyOfRange"), (0, u "([BII)[B"), (47, .class_ 109), (1, u "java/lang/StringLatin1"), (32, u "()Z"), (34, .methodref 42 178), (0, .nameAndType 45 179), (0, u "([CII)[B"), (13, .class_ 195), (1, u "java/lang/System"), (16, .methodref 193 213), (0, .nameAndType 214 215), (0, u "arraycopy"), (0, u "(Ljava/lang/Object;ILjava/lang/Object;II)V"), (118, u "()I"), (0, .methodref 10 336), (0, .nameAndType 17 337), (0, u "()B"), (2, u "()[B"), (22, u "([BI)C"), (27, u "(II)V"), (35, u "(I)C"), (61, .methodref 10 490), (0, .nameAndType 5 491), (0, u "(Ljava/lang/AbstractStringBuilder;Ljava/lang/Void;)V"), (0, .methodref 10 493), (0, .nameAndType 494 142), (0, u "isLatin1"), (0, .methodref 107 496), (0, .nameAndType 497 363), (0, u "charAt"), (3, u "checkIndex"), (4, .nameAndType 507 334), (0, u "length"), (24, u "getBytes"), (16, .methodref 550 506), (0, .class_ 551), (0, u "java/lang/AbstractStringBuilder"), (0, .methodref 550 553), (0, .nameAndType 554 340), (0, u "getValue"), (20, .class_ 576), (0, u "java/lang/CharSequence"), (22, u "CASE_INSENSITIVE_ORDER"), (0, u "Ljava/util/Comparator;"), (220, u "([BIB)V"), (188, u "([C)V"), (36, .methodref 550 493), (5, .fieldref 1054 1055), (0, .class_ 1056), (0, .nameAndType 1057 1058), (0, u "jdk/internal/util/Preconditions"), (0, u "SIOOBE_FORMATTER"), (0, u "Ljava/util/function/BiFunction;"), (0, .methodref 1054 1060), (0, .nameAndType 501 1061), (0, u "(IILjava/util/function/BiFunction;)I"), (39, u "serialPersistentFields"), (0, u "[Ljava/io/ObjectStreamField;"), (0, .class_ 1104), (0, u "java/lang/String$CaseInsensitiveComparator"), (1, .class_ 1107), (0, u "java/io/Serializable"), (0, .class_ 1109), (0, u "java/lang/Comparable"), (0, .class_ 1111), (0, u "java/lang/constant/Constable"), (0, .class_ 1113), (0, u "java/lang/constant/ConstantDesc"), (2, u "serialVersionUID"), (0, u "J"), (3, u "REPL"), (0, u "C"), (2, u "LATIN1"), (1, u "UTF16"), (105, u "(Ljava/lang/StringBuilder;)V")] 217

def k7m0 : Method := { name := "<init>", desc := "()V", sig := { parameters := [], returnType := none }, accessFlags := 1, code := none }
def k7c1 : Code := { maxStack := 5, maxLocals := 2, code := jdk_42_method_3_code, exceptionTable := #[], attributes := #[] }
def k7m1 : Method := { name := "<init>", desc := "([C)V", sig := { parameters := [(.array .char)], returnType := none }, accessFlags := 1, code := some k7c1 }
def k7c2 : Code := { maxStack := 3, maxLocals := 2, code := jdk_42_method_53_code, exceptionTable := #[], attributes := #[] }
def k7m2 : Method := { name := "<init>", desc := "(Ljava/lang/StringBuilder;)V", sig := { parameters := [(.object "java/lang/StringBuilder")], returnType := none }, accessFlags := 1, code := some k7c2 }
def k7c3 : Code := { maxStack := 2, maxLocals := 1, code := jdk_42_method_54_code, exceptionTable := #[], attributes := #[] }
def k7m3 : Method := { name := "length", desc := "()I", sig := { parameters := [], returnType := some .int }, accessFlags := 1, code := some k7c3 }
def k7c4 : Code := { maxStack := 2, maxLocals := 2, code := jdk_42_method_56_code, exceptionTable := #[], attributes := #[] }
def k7m4 : Method := { name := "charAt", desc := "(I)C", sig := { parameters := [.int], returnType := some .char }, accessFlags := 1, code := some k7c4 }
def k7c5 : Code := { maxStack := 5, maxLocals := 4, code := jdk_42_method_147_code, exceptionTable := #[], attributes := #[] }
def k7m5 : Method := { name := "getBytes", desc := "([BIB)V", sig := { parameters := [(.array .byte), .int, .byte], returnType := none }, accessFlags := 0, code := some k7c5 }
def k7c6 : Code := { maxStack := 4, maxLocals := 6, code := jdk_42_method_149_code, exceptionTable := #[], attributes := #[] }
def k7m6 : Method := { name := "<init>", desc := "([CIILjava/lang/Void;)V", sig := { parameters := [(.array .char), .int, .int, (.object "java/lang/Void")], returnType := none }, accessFlags := 2, code := some k7c6 }
def k7c7 : Code := { maxStack := 5, maxLocals := 5, code := jdk_42_method_150_code, exceptionTable := #[], attributes := #[] }
def k7m7 : Method := { name := "<init>", desc := "(Ljava/lang/AbstractStringBuilder;Ljava/lang/Void;)V", sig := { parameters := [(.object "java/lang/AbstractStringBuilder"), (.object "java/lang/Void")], returnType := none }, accessFlags := 0, code := some k7c7 }
def k7c8 : Code := { maxStack := 1, maxLocals := 1, code := jdk_42_method_152_code, exceptionTable := #[], attributes := #[] }
def k7m8 : Method := { name := "coder", desc := "()B", sig := { parameters := [], returnType := some .byte }, accessFlags := 0, code := some k7c8 }
def k7c9 : Code := { maxStack := 1, maxLocals := 1, code := jdk_42_method_154_code, exceptionTable := #[], attributes := #[] }
def k7m9 : Method := { name := "isLatin1", desc := "()Z", sig := { parameters := [], returnType := some .boolean }, accessFlags := 0, code := some k7c9 }
def k7c10 : Code := { maxStack := 3, maxLocals := 2, code := jdk_42_method_155_code, exceptionTable := #[], attributes := #[] }
def k7m10 : Method := { name := "checkIndex", desc := "(II)V", sig := { parameters := [.int, .int], returnType := none }, accessFlags := 8, code := some k7c10 }
/-- java/lang/String -/
def k7 : Class := { plain "java/lang/String" (some 0) with
  accessFlags := 49
  interfaces := #[2, 3, 4, 5, 6]
  cf := some (fileOf pool7 10 #[.nestMembers #[1103]] #[{ accessFlags := 1, nameIndex := 5, descriptorIndex := 6, attributes := #[] }, { accessFlags := 1, nameIndex := 5, descriptorIndex := 1010, attributes := #[] }, { accessFlags := 1, nameIndex := 5, descriptorIndex := 1233, attributes := #[] }, { accessFlags := 1, nameIndex := 507, descriptorIndex := 334, attributes := #[] }, { accessFlags := 1, nameIndex := 497, descriptorIndex := 427, attributes := #[] }, { accessFlags := 0, nameIndex := 532, descriptorIndex := 821, attributes := #[] }, { accessFlags := 2, nameIndex := 5, descriptorIndex := 29, attributes := #[] }, { accessFlags := 0, nameIndex := 5, descriptorIndex := 491, attributes := #[] }, { accessFlags := 0, nameIndex := 17, descriptorIndex := 337, attributes := #[] }, { accessFlags := 0, nameIndex := 494, descriptorIndex := 142, attributes := #[] }, { accessFlags := 8, nameIndex := 501, descriptorIndex := 391, attributes := #[] }] 49 2 #[1106, 1108, 575, 1110, 1112] #[{ accessFlags := 18, nameIndex := 13, descriptorIndex := 14, attributes := #[] }, { accessFlags := 18, nameIndex := 17, descriptorIndex := 18, attributes := #[] }, { accessFlags := 2, nameIndex := 21, descriptorIndex := 22, attributes := #[] }, { accessFlags := 2, nameIndex := 25, descriptorIndex := 26, attributes := #[] }, { accessFlags := 26, nameIndex := 1116, descriptorIndex := 1117, attributes := #[] }, { accessFlags := 24, nameIndex := 40, descriptorIndex := 26, attributes := #[] }, { accessFlags := 26, nameIndex := 1101, descriptorIndex := 1102, attributes := #[] }, { accessFlags := 26, nameIndex := 1121, descriptorIndex := 1122, attributes := #[] }, { accessFlags := 25, nameIndex := 599, descriptorIndex := 600, attributes := #[] }, { accessFlags := 24, nameIndex := 1125, descriptorIndex := 18, attributes := #[] }, { accessFlags := 24, nameIndex := 1127, descriptorIndex := 18, attributes := #[] }])
  fields := #[{ name := "value", type := (.array .byte), accessFlags := 18, slot := 0, constantValue := 0 }, { name := "coder", type := .byte, accessFlags := 18, slot := 1, constantValue := 0 }, { name := "hash", type := .int, accessFlags := 2, slot := 2, constantValue := 0 }, { name := "hashIsZero", type := .boolean, accessFlags := 2, slot := 3, constantValue := 0 }, { name := "serialVersionUID", type := .long, accessFlags := 26, slot := 0, constantValue := 0 }, { name := "COMPACT_STRINGS", type := .boolean, accessFlags := 24, slot := 1, constantValue := 0 }, { name := "serialPersistentFields", type := (.array (.object "java/io/ObjectStreamField")), accessFlags := 26, slot := 2, constantValue := 0 }, { name := "REPL", type := .char, accessFlags := 26, slot := 3, constantValue := 0 }, { name := "CASE_INSENSITIVE_ORDER", type := (.object "java/util/Comparator"), accessFlags := 25, slot := 4, constantValue := 0 }, { name := "LATIN1", type := .byte, accessFlags := 24, slot := 5, constantValue := 0 }, { name := "UTF16", type := .byte, accessFlags := 24, slot := 6, constantValue := 0 }]
  methods := #[k7m0, k7m1, k7m2, k7m3, k7m4, k7m5, k7m6, k7m7, k7m8, k7m9, k7m10]
  instanceTypes := #[(.array .byte), .byte, .int, .boolean]
  staticTypes := #[.long, .boolean, (.array (.object "java/io/ObjectStreamField")), .char, (.object "java/util/Comparator"), .byte, .byte]
  resolved := Array.replicate 1451 none
  statics := some 0 }

def pool8 : Array CpInfo := pool [(6, .class_ 8), (1, u "java/lang/Object"), (0, u "<init>"), (0, u "()V"), (1, .class_ 14), (1, u "java/lang/StringUTF16"), (31, u "$assertionsDisabled"), (0, u "Z"), (13, u "HI_BYTE_SHIFT"), (0, u "I"), (2, u "LO_BYTE_SHIFT"), (49, .methodref 12 116), (0, .nameAndType 117 118), (0, u "compress"), (0, u "([CI[BII)I"), (3, u "([CII)[B"), (138, u "coderFromArrayLen"), (0, u "([BI)B"), (106, .class_ 371), (1, u "java/lang/StringUTF16$LinesSpliterator"), (58, u "MAX_LENGTH"), (196, .class_ 628), (0, u "java/lang/StringUTF16$CodePointsSpliterator"), (0, .class_ 630), (0, u "java/lang/StringUTF16$CharsSpliterator")] 4

def k8m0 : Method := { name := "<init>", desc := "()V", sig := { parameters := [], returnType := none }, accessFlags := 0, code := none }
def k8c1 : Code := { maxStack := 2, maxLocals := 2, code := jdk_52_method_15_code, exceptionTable := #[], attributes := #[] }
def k8m1 : Method := { name := "coderFromArrayLen", desc := "([BI)B", sig := { parameters := [(.array .byte), .int], returnType := some .byte }, accessFlags := 8, code := some k8c1 }
def k8c2 : Code := { maxStack := 5, maxLocals := 6, code := jdk_52_method_16_code, exceptionTable := #[], attributes := #[] }
def k8m2 : Method := { name := "compress", desc := "([CII)[B", sig := { parameters := [(.array .char), .int, .int], returnType := some (.array .byte) }, accessFlags := 9, code := some k8c2 }
def k8c3 : Code := { maxStack := 3, maxLocals := 7, code := jdk_52_method_21_code, exceptionTable := #[], attributes := #[] }
def k8m3 : Method := { name := "compress", desc := "([CI[BII)I", sig := { parameters := [(.array .char), .int, (.array .byte), .int, .int], returnType := some .int }, accessFlags := 9, code := some k8c3 }
/-- java/lang/StringUTF16 -/
def k8 : Class := { plain "java/lang/StringUTF16" (some 0) with
  accessFlags := 48
  interfaces := #[]
  cf := some (fileOf pool8 12 #[.nestMembers #[627, 629, 369]] #[{ accessFlags := 0, nameIndex := 9, descriptorIndex := 10, attributes := #[] }, { accessFlags := 8, nameIndex := 261, descriptorIndex := 262, attributes := #[] }, { accessFlags := 9, nameIndex := 117, descriptorIndex := 122, attributes := #[] }, { accessFlags := 9, nameIndex := 117, descriptorIndex := 118, attributes := #[] }] 48 6 #[] #[{ accessFlags := 26, nameIndex := 61, descriptorIndex := 62, attributes := #[] }, { accessFlags := 26, nameIndex := 65, descriptorIndex := 62, attributes := #[] }, { accessFlags := 24, nameIndex := 430, descriptorIndex := 62, attributes := #[] }, { accessFlags := 4120, nameIndex := 46, descriptorIndex := 47, attributes := #[] }])
  fields := #[{ name := "HI_BYTE_SHIFT", type := .int, accessFlags := 26, slot := 0, constantValue := 0 }, { name := "LO_BYTE_SHIFT", type := .int, accessFlags := 26, slot := 1, constantValue := 0 }, { name := "MAX_LENGTH", type := .int, accessFlags := 24, slot := 2, constantValue := 0 }, { name := "$assertionsDisabled", type := .boolean, accessFlags := 4120, slot := 3, constantValue := 0 }]
  methods := #[k8m0, k8m1, k8m2, k8m3]
  instanceTypes := #[]
  staticTypes := #[.int, .int, .int, .boolean]
  resolved := Array.replicate 635 none
  statics := none }

def pool9 : Array CpInfo := pool [(1, .methodref 2 3), (0, .class_ 4), (0, .nameAndType 5 6), (0, u "java/lang/Object"), (0, u "<init>"), (0, u "()V"), (0, .class_ 8), (0, u "java/lang/Record")] 13

def k9c0 : Code := { maxStack := 1, maxLocals := 1, code := jdk_30_method_1_code, exceptionTable := #[], attributes := #[] }
def k9m0 : Method := { name := "<init>", desc := "()V", sig := { parameters := [], returnType := none }, accessFlags := 4, code := some k9c0 }
/-- java/lang/Record -/
def k9 : Class := { plain "java/lang/Record" (some 0) with
  accessFlags := 1057
  interfaces := #[]
  cf := some (fileOf pool9 7 #[] #[{ accessFlags := 4, nameIndex := 5, descriptorIndex := 6, attributes := #[] }] 1057 2 #[] #[])
  fields := #[]
  methods := #[k9m0]
  instanceTypes := #[]
  staticTypes := #[]
  resolved := Array.replicate 22 none
  statics := none }

def pool10 : Array CpInfo := pool [(1, .class_ 2), (0, u "com/example/grantgraph/grantgraph/store/Subject"), (0, .class_ 4), (0, u "java/lang/Object")] 9

/-- com/example/grantgraph/grantgraph/store/Subject -/
def k10 : Class := { plain "com/example/grantgraph/grantgraph/store/Subject" (some 0) with
  accessFlags := 1537
  interfaces := #[]
  cf := some (fileOf pool10 1 #[] #[] 1537 3 #[] #[])
  fields := #[]
  methods := #[]
  instanceTypes := #[]
  staticTypes := #[]
  resolved := Array.replicate 14 none
  statics := none }

def pool11 : Array CpInfo := pool [(1, .methodref 2 3), (0, .class_ 4), (0, .nameAndType 5 6), (0, u "java/lang/Record"), (0, u "<init>"), (0, u "()V"), (0, .fieldref 8 9), (0, .class_ 10), (0, .nameAndType 11 12), (0, u "com/example/grantgraph/grantgraph/store/ObjectRef"), (0, u "type"), (0, u "Ljava/lang/String;"), (0, .fieldref 8 14), (0, .nameAndType 15 12), (0, u "id"), (0, .class_ 17), (0, u "java/lang/StringBuilder"), (0, .methodref 16 3), (0, .methodref 16 20), (0, .nameAndType 21 22), (0, u "append"), (0, u "(Ljava/lang/String;)Ljava/lang/StringBuilder;"), (0, .string 24), (0, u ":"), (0, .methodref 16 26), (0, .nameAndType 27 28), (0, u "toString"), (0, u "()Ljava/lang/String;"), (8, .class_ 38), (0, u "com/example/grantgraph/grantgraph/store/Subject"), (0, u "(Ljava/lang/String;Ljava/lang/String;)V")] 26

def k11c0 : Code := { maxStack := 2, maxLocals := 3, code := prog_36_method_1_code, exceptionTable := #[], attributes := #[] }
def k11m0 : Method := { name := "<init>", desc := "(Ljava/lang/String;Ljava/lang/String;)V", sig := { parameters := [(.object "java/lang/String"), (.object "java/lang/String")], returnType := none }, accessFlags := 1, code := some k11c0 }
def k11c1 : Code := { maxStack := 2, maxLocals := 1, code := prog_36_method_2_code, exceptionTable := #[], attributes := #[] }
def k11m1 : Method := { name := "toString", desc := "()Ljava/lang/String;", sig := { parameters := [], returnType := some (.object "java/lang/String") }, accessFlags := 1, code := some k11c1 }
/-- com/example/grantgraph/grantgraph/store/ObjectRef -/
def k11 : Class := { plain "com/example/grantgraph/grantgraph/store/ObjectRef" (some 9) with
  accessFlags := 49
  interfaces := #[10]
  cf := some (fileOf pool11 8 #[] #[{ accessFlags := 1, nameIndex := 5, descriptorIndex := 39, attributes := #[] }, { accessFlags := 1, nameIndex := 27, descriptorIndex := 28, attributes := #[] }] 49 2 #[37] #[{ accessFlags := 18, nameIndex := 11, descriptorIndex := 12, attributes := #[] }, { accessFlags := 18, nameIndex := 15, descriptorIndex := 12, attributes := #[] }])
  fields := #[{ name := "type", type := (.object "java/lang/String"), accessFlags := 18, slot := 0, constantValue := 0 }, { name := "id", type := (.object "java/lang/String"), accessFlags := 18, slot := 1, constantValue := 0 }]
  methods := #[k11m0, k11m1]
  instanceTypes := #[(.object "java/lang/String"), (.object "java/lang/String")]
  staticTypes := #[]
  resolved := Array.replicate 66 none
  statics := none }

def pool12 : Array CpInfo := pool [(1, .class_ 2), (0, u "java/lang/Appendable"), (0, .class_ 4), (0, u "java/lang/Object")] 9

/-- java/lang/Appendable -/
def k12 : Class := { plain "java/lang/Appendable" (some 0) with
  accessFlags := 1537
  interfaces := #[]
  cf := some (fileOf pool12 1 #[] #[] 1537 3 #[] #[])
  fields := #[]
  methods := #[]
  instanceTypes := #[]
  staticTypes := #[]
  resolved := Array.replicate 14 none
  statics := none }

def pool13 : Array CpInfo := pool [(1, .class_ 2), (0, u "java/lang/String"), (0, .methodref 4 5), (0, .class_ 6), (0, .nameAndType 7 8), (0, u "java/lang/Object"), (0, u "<init>"), (0, u "()V"), (1, .class_ 12), (1, u "java/lang/AbstractStringBuilder"), (0, u "EMPTYVALUE"), (0, u "[B"), (0, .fieldref 10 16), (0, .nameAndType 17 14), (0, u "value"), (0, .fieldref 1 19), (0, .nameAndType 20 21), (0, u "COMPACT_STRINGS"), (0, u "Z"), (0, .fieldref 10 23), (0, .nameAndType 24 25), (0, u "coder"), (0, u "B"), (6, .methodref 1 33), (0, .nameAndType 34 35), (0, u "length"), (0, u "()I"), (4, .methodref 1 41), (0, .nameAndType 24 42), (0, u "()B"), (2, u "append"), (0, u "(Ljava/lang/String;)Ljava/lang/AbstractStringBuilder;"), (1, .class_ 49), (0, u "java/lang/CharSequence"), (19, u "(Ljava/lang/String;)V"), (5, u "maybeLatin1"), (3, .fieldref 10 80), (0, .nameAndType 81 82), (0, u "count"), (0, u "I"), (2, u "isLatin1"), (0, u "()Z"), (13, .methodref 10 101), (0, .nameAndType 102 103), (0, u "ensureCapacityInternal"), (0, u "(I)V"), (104, .methodref 10 209), (0, .nameAndType 210 211), (0, u "putStringAt"), (0, u "(ILjava/lang/String;)V"), (5, u "inflateIfNeededFor"), (2, .nameAndType 221 222), (0, u "getBytes"), (0, u "([BIB)V"), (174, .methodref 10 398), (0, .nameAndType 217 69), (0, .methodref 1 220), (3, u "()[B"), (40, .class_ 445), (0, u "java/lang/Appendable"), (106, u "getValue")] 56

def k13m0 : Method := { name := "<init>", desc := "()V", sig := { parameters := [], returnType := none }, accessFlags := 0, code := none }
def k13c1 : Code := { maxStack := 2, maxLocals := 2, code := jdk_68_method_2_code, exceptionTable := #[], attributes := #[] }
def k13m1 : Method := { name := "<init>", desc := "(I)V", sig := { parameters := [.int], returnType := none }, accessFlags := 0, code := some k13c1 }
def k13c2 : Code := { maxStack := 1, maxLocals := 1, code := jdk_68_method_6_code, exceptionTable := #[], attributes := #[] }
def k13m2 : Method := { name := "length", desc := "()I", sig := { parameters := [], returnType := some .int }, accessFlags := 1, code := some k13c2 }
def k13c3 : Code := { maxStack := 4, maxLocals := 3, code := jdk_68_method_9_code, exceptionTable := #[], attributes := #[] }
def k13m3 : Method := { name := "ensureCapacityInternal", desc := "(I)V", sig := { parameters := [.int], returnType := none }, accessFlags := 2, code := some k13c3 }
def k13c4 : Code := { maxStack := 3, maxLocals := 3, code := jdk_68_method_22_code, exceptionTable := #[], attributes := #[] }
def k13m4 : Method := { name := "append", desc := "(Ljava/lang/String;)Ljava/lang/AbstractStringBuilder;", sig := { parameters := [(.object "java/lang/String")], returnType := some (.object "java/lang/AbstractStringBuilder") }, accessFlags := 1, code := some k13c4 }
def k13c5 : Code := { maxStack := 1, maxLocals := 1, code := jdk_68_method_64_code, exceptionTable := #[], attributes := #[] }
def k13m5 : Method := { name := "getValue", desc := "()[B", sig := { parameters := [], returnType := some (.array .byte) }, accessFlags := 16, code := some k13c5 }
def k13c6 : Code := { maxStack := 1, maxLocals := 1, code := jdk_68_method_68_code, exceptionTable := #[], attributes := #[] }
def k13m6 : Method := { name := "isLatin1", desc := "()Z", sig := { parameters := [], returnType := some .boolean }, accessFlags := 16, code := some k13c6 }
def k13c7 : Code := { maxStack := 2, maxLocals := 2, code := jdk_68_method_71_code, exceptionTable := #[], attributes := #[] }
def k13m7 : Method := { name := "inflateIfNeededFor", desc := "(Ljava/lang/String;)V", sig := { parameters := [(.object "java/lang/String")], returnType := none }, accessFlags := 2, code := some k13c7 }
def k13c8 : Code := { maxStack := 4, maxLocals := 3, code := jdk_68_method_73_code, exceptionTable := #[], attributes := #[] }
def k13m8 : Method := { name := "putStringAt", desc := "(ILjava/lang/String;)V", sig := { parameters := [.int, (.object "java/lang/String")], returnType := none }, accessFlags := 2, code := some k13c8 }
/-- java/lang/AbstractStringBuilder -/
def k13 : Class := { plain "java/lang/AbstractStringBuilder" (some 0) with
  accessFlags := 1056
  interfaces := #[12, 4]
  cf := some (fileOf pool13 10 #[] #[{ accessFlags := 0, nameIndex := 7, descriptorIndex := 8, attributes := #[] }, { accessFlags := 0, nameIndex := 7, descriptorIndex := 103, attributes := #[] }, { accessFlags := 1, nameIndex := 34, descriptorIndex := 35, attributes := #[] }, { accessFlags := 2, nameIndex := 102, descriptorIndex := 103, attributes := #[] }, { accessFlags := 1, nameIndex := 45, descriptorIndex := 46, attributes := #[] }, { accessFlags := 16, nameIndex := 552, descriptorIndex := 403, attributes := #[] }, { accessFlags := 16, nameIndex := 85, descriptorIndex := 86, attributes := #[] }, { accessFlags := 2, nameIndex := 217, descriptorIndex := 69, attributes := #[] }, { accessFlags := 2, nameIndex := 210, descriptorIndex := 211, attributes := #[] }] 1056 4 #[444, 48] #[{ accessFlags := 0, nameIndex := 17, descriptorIndex := 14, attributes := #[] }, { accessFlags := 0, nameIndex := 24, descriptorIndex := 25, attributes := #[] }, { accessFlags := 0, nameIndex := 75, descriptorIndex := 21, attributes := #[] }, { accessFlags := 0, nameIndex := 81, descriptorIndex := 82, attributes := #[] }, { accessFlags := 26, nameIndex := 13, descriptorIndex := 14, attributes := #[] }])
  fields := #[{ name := "value", type := (.array .byte), accessFlags := 0, slot := 0, constantValue := 0 }, { name := "coder", type := .byte, accessFlags := 0, slot := 1, constantValue := 0 }, { name := "maybeLatin1", type := .boolean, accessFlags := 0, slot := 2, constantValue := 0 }, { name := "count", type := .int, accessFlags := 0, slot := 3, constantValue := 0 }, { name := "EMPTYVALUE", type := (.array .byte), accessFlags := 26, slot := 0, constantValue := 0 }]
  methods := #[k13m0, k13m1, k13m2, k13m3, k13m4, k13m5, k13m6, k13m7, k13m8]
  instanceTypes := #[(.array .byte), .byte, .boolean, .int]
  staticTypes := #[(.array .byte)]
  resolved := Array.replicate 609 none
  statics := none }

def pool14 : Array CpInfo := pool [(1, .methodref 2 3), (0, .class_ 4), (0, .nameAndType 5 6), (0, u "java/lang/AbstractStringBuilder"), (0, u "<init>"), (0, u "(I)V"), (11, .class_ 20), (1, u "java/lang/String"), (3, .class_ 26), (1, u "java/lang/StringBuilder"), (0, u "append"), (0, u "(Ljava/lang/String;)Ljava/lang/StringBuilder;"), (0, .methodref 2 30), (0, .nameAndType 27 31), (0, u "(Ljava/lang/String;)Ljava/lang/AbstractStringBuilder;"), (105, .methodref 18 138), (0, .nameAndType 5 139), (0, u "(Ljava/lang/StringBuilder;)V"), (5, u "()V"), (10, u "()I"), (186, .methodref 2 344), (0, .nameAndType 345 156), (0, u "length"), (3, .class_ 350), (0, u "java/lang/Appendable"), (0, .class_ 352), (0, u "java/io/Serializable"), (0, .class_ 354), (0, u "java/lang/Comparable"), (0, .class_ 356), (0, u "java/lang/CharSequence"), (0, u "serialVersionUID"), (0, u "J"), (40, u "toString"), (0, u "()Ljava/lang/String;")] 21

def k14c0 : Code := { maxStack := 2, maxLocals := 1, code := jdk_67_method_1_code, exceptionTable := #[], attributes := #[] }
def k14m0 : Method := { name := "<init>", desc := "()V", sig := { parameters := [], returnType := none }, accessFlags := 1, code := some k14c0 }
def k14c1 : Code := { maxStack := 2, maxLocals := 2, code := jdk_67_method_7_code, exceptionTable := #[], attributes := #[] }
def k14m1 : Method := { name := "append", desc := "(Ljava/lang/String;)Ljava/lang/StringBuilder;", sig := { parameters := [(.object "java/lang/String")], returnType := some (.object "java/lang/StringBuilder") }, accessFlags := 1, code := some k14c1 }
def k14c2 : Code := { maxStack := 3, maxLocals := 1, code := jdk_67_method_42_code, exceptionTable := #[], attributes := #[] }
def k14m2 : Method := { name := "toString", desc := "()Ljava/lang/String;", sig := { parameters := [], returnType := some (.object "java/lang/String") }, accessFlags := 1, code := some k14c2 }
def k14c3 : Code := { maxStack := 1, maxLocals := 1, code := jdk_67_method_93_code, exceptionTable := #[], attributes := #[] }
def k14m3 : Method := { name := "length", desc := "()I", sig := { parameters := [], returnType := some .int }, accessFlags := 4161, code := some k14c3 }
/-- java/lang/StringBuilder -/
def k14 : Class := { plain "java/lang/StringBuilder" (some 13) with
  accessFlags := 49
  interfaces := #[12, 2, 3, 4]
  cf := some (fileOf pool14 24 #[] #[{ accessFlags := 1, nameIndex := 5, descriptorIndex := 145, attributes := #[] }, { accessFlags := 1, nameIndex := 27, descriptorIndex := 28, attributes := #[] }, { accessFlags := 1, nameIndex := 399, descriptorIndex := 400, attributes := #[] }, { accessFlags := 4161, nameIndex := 345, descriptorIndex := 156, attributes := #[] }] 49 2 #[349, 351, 353, 355] #[{ accessFlags := 24, nameIndex := 357, descriptorIndex := 358, attributes := #[] }])
  fields := #[{ name := "serialVersionUID", type := .long, accessFlags := 24, slot := 0, constantValue := 0 }]
  methods := #[k14m0, k14m1, k14m2, k14m3]
  instanceTypes := #[(.array .byte), .byte, .boolean, .int]
  staticTypes := #[.long]
  resolved := Array.replicate 422 none
  statics := none }

def pool15 : Array CpInfo := pool [(2, .class_ 4), (1, u "java/lang/Object"), (0, u "<init>"), (0, u "()V"), (1, .class_ 10), (1, u "java/lang/System"), (0, u "allowSecurityManager"), (0, u "I"), (16, u "cons"), (0, u "Ljava/io/Console;"), (77, .class_ 110), (1, u "java/lang/System$CallersHolder"), (43, u "initialErrStream"), (0, u "Ljava/io/PrintStream;"), (19, u "security"), (0, u "Ljava/lang/SecurityManager;"), (31, .class_ 209), (0, u "java/lang/System$1"), (7, u "props"), (0, u "Ljava/util/Properties;"), (2, u "lineSeparator"), (0, u "Ljava/lang/String;"), (96, .class_ 321), (1, u "java/lang/System$LoggerFinder"), (5, .class_ 328), (0, u "java/lang/System$Logger"), (67, u "err"), (2, u "out"), (91, u "notSupportedJnuEncoding"), (15, u "in"), (17, u "initialIn"), (0, u "Ljava/io/InputStream;"), (35, u "bootLayer"), (0, u "Ljava/lang/ModuleLayer;"), (99, .class_ 664), (0, u "java/lang/System$2"), (9, u "NEVER"), (2, u "MAYBE"), (49, u "arraycopy"), (0, u "(Ljava/lang/Object;ILjava/lang/Object;II)V"), (72, .class_ 802), (0, u "java/lang/System$Logger$Level")] 31

def k15m0 : Method := { name := "<init>", desc := "()V", sig := { parameters := [], returnType := none }, accessFlags := 2, code := none }
def k15m1 : Method := { name := "arraycopy", desc := "(Ljava/lang/Object;ILjava/lang/Object;II)V", sig := { parameters := [(.object "java/lang/Object"), .int, (.object "java/lang/Object"), .int, .int], returnType := none }, accessFlags := 265, code := none }
/-- java/lang/System -/
def k15 : Class := { plain "java/lang/System" (some 0) with
  accessFlags := 49
  interfaces := #[]
  cf := some (fileOf pool15 8 #[.nestMembers #[319, 327, 801, 108, 663, 208]] #[{ accessFlags := 2, nameIndex := 5, descriptorIndex := 6, attributes := #[] }, { accessFlags := 265, nameIndex := 727, descriptorIndex := 728, attributes := #[] }] 49 2 #[] #[{ accessFlags := 25, nameIndex := 507, descriptorIndex := 526, attributes := #[] }, { accessFlags := 25, nameIndex := 399, descriptorIndex := 155, attributes := #[] }, { accessFlags := 25, nameIndex := 396, descriptorIndex := 155, attributes := #[] }, { accessFlags := 10, nameIndex := 525, descriptorIndex := 526, attributes := #[] }, { accessFlags := 26, nameIndex := 674, descriptorIndex := 12, attributes := #[] }, { accessFlags := 26, nameIndex := 677, descriptorIndex := 12, attributes := #[] }, { accessFlags := 10, nameIndex := 11, descriptorIndex := 12, attributes := #[] }, { accessFlags := 74, nameIndex := 175, descriptorIndex := 176, attributes := #[] }, { accessFlags := 10, nameIndex := 491, descriptorIndex := 222, attributes := #[] }, { accessFlags := 74, nameIndex := 29, descriptorIndex := 30, attributes := #[] }, { accessFlags := 74, nameIndex := 154, descriptorIndex := 155, attributes := #[] }, { accessFlags := 10, nameIndex := 217, descriptorIndex := 218, attributes := #[] }, { accessFlags := 10, nameIndex := 221, descriptorIndex := 222, attributes := #[] }, { accessFlags := 8, nameIndex := 562, descriptorIndex := 563, attributes := #[] }])
  fields := #[{ name := "in", type := (.object "java/io/InputStream"), accessFlags := 25, slot := 0, constantValue := 0 }, { name := "out", type := (.object "java/io/PrintStream"), accessFlags := 25, slot := 1, constantValue := 0 }, { name := "err", type := (.object "java/io/PrintStream"), accessFlags := 25, slot := 2, constantValue := 0 }, { name := "initialIn", type := (.object "java/io/InputStream"), accessFlags := 10, slot := 3, constantValue := 0 }, { name := "NEVER", type := .int, accessFlags := 26, slot := 4, constantValue := 0 }, { name := "MAYBE", type := .int, accessFlags := 26, slot := 5, constantValue := 0 }, { name := "allowSecurityManager", type := .int, accessFlags := 10, slot := 6, constantValue := 0 }, { name := "security", type := (.object "java/lang/SecurityManager"), accessFlags := 74, slot := 7, constantValue := 0 }, { name := "notSupportedJnuEncoding", type := (.object "java/lang/String"), accessFlags := 10, slot := 8, constantValue := 0 }, { name := "cons", type := (.object "java/io/Console"), accessFlags := 74, slot := 9, constantValue := 0 }, { name := "initialErrStream", type := (.object "java/io/PrintStream"), accessFlags := 74, slot := 10, constantValue := 0 }, { name := "props", type := (.object "java/util/Properties"), accessFlags := 10, slot := 11, constantValue := 0 }, { name := "lineSeparator", type := (.object "java/lang/String"), accessFlags := 10, slot := 12, constantValue := 0 }, { name := "bootLayer", type := (.object "java/lang/ModuleLayer"), accessFlags := 8, slot := 13, constantValue := 0 }]
  methods := #[k15m0, k15m1]
  instanceTypes := #[]
  staticTypes := #[(.object "java/io/InputStream"), (.object "java/io/PrintStream"), (.object "java/io/PrintStream"), (.object "java/io/InputStream"), .int, .int, .int, (.object "java/lang/SecurityManager"), (.object "java/lang/String"), (.object "java/io/Console"), (.object "java/io/PrintStream"), (.object "java/util/Properties"), (.object "java/lang/String"), (.object "java/lang/ModuleLayer")]
  resolved := Array.replicate 834 none
  statics := none }

def pool16 : Array CpInfo := pool [(2, .class_ 4), (1, u "java/lang/Object"), (0, u "<init>"), (0, u "()V"), (7, .class_ 16), (1, u "java/util/Arrays"), (57, .class_ 76), (1, u "java/util/Arrays$NaturalOrder"), (36, .class_ 115), (1, u "java/util/Arrays$LegacyMergeSort"), (1, u "Z"), (21, u "copyOfRange"), (10, .methodref 151 152), (0, .class_ 153), (0, .nameAndType 154 155), (0, u "java/lang/System"), (0, u "arraycopy"), (0, u "(Ljava/lang/Object;ILjava/lang/Object;II)V"), (148, .methodref 305 306), (0, .class_ 307), (0, .nameAndType 308 309), (0, u "java/lang/Math"), (0, u "min"), (0, u "(II)I"), (29, .methodref 14 340), (0, .nameAndType 341 342), (0, u "copyOfRangeByte"), (0, u "([BII)[B"), (0, .methodref 14 344), (0, .nameAndType 345 346), (0, u "checkLength"), (0, u "(II)V"), (28, .class_ 376), (0, u "java/util/Arrays$ArrayList"), (68, u "$assertionsDisabled"), (269, u "MIN_ARRAY_SORT_GRAN"), (0, u "I"), (2, u "INSERTIONSORT_THRESHOLD"), (255, .class_ 976), (0, u "java/util/Arrays$ArrayItr")] 52

def k16m0 : Method := { name := "<init>", desc := "()V", sig := { parameters := [], returnType := none }, accessFlags := 2, code := none }
def k16c1 : Code := { maxStack := 4, maxLocals := 2, code := jdk_65_method_131_code, exceptionTable := #[], attributes := #[] }
def k16m1 : Method := { name := "checkLength", desc := "(II)V", sig := { parameters := [.int, .int], returnType := none }, accessFlags := 10, code := some k16c1 }
def k16c2 : Code := { maxStack := 3, maxLocals := 3, code := jdk_65_method_132_code, exceptionTable := #[], attributes := #[] }
def k16m2 : Method := { name := "copyOfRange", desc := "([BII)[B", sig := { parameters := [(.array .byte), .int, .int], returnType := some (.array .byte) }, accessFlags := 9, code := some k16c2 }
def k16c3 : Code := { maxStack := 6, maxLocals := 5, code := jdk_65_method_133_code, exceptionTable := #[], attributes := #[] }
def k16m3 : Method := { name := "copyOfRangeByte", desc := "([BII)[B", sig := { parameters := [(.array .byte), .int, .int], returnType := some (.array .byte) }, accessFlags := 10, code := some k16c3 }
/-- java/util/Arrays -/
def k16 : Class := { plain "java/util/Arrays" (some 0) with
  accessFlags := 49
  interfaces := #[]
  cf := some (fileOf pool16 14 #[.nestMembers #[975, 375, 113, 74]] #[{ accessFlags := 2, nameIndex := 5, descriptorIndex := 6, attributes := #[] }, { accessFlags := 10, nameIndex := 345, descriptorIndex := 346, attributes := #[] }, { accessFlags := 9, nameIndex := 139, descriptorIndex := 342, attributes := #[] }, { accessFlags := 10, nameIndex := 341, descriptorIndex := 342, attributes := #[] }] 49 2 #[] #[{ accessFlags := 26, nameIndex := 715, descriptorIndex := 716, attributes := #[] }, { accessFlags := 26, nameIndex := 719, descriptorIndex := 716, attributes := #[] }, { accessFlags := 4120, nameIndex := 445, descriptorIndex := 117, attributes := #[] }])
  fields := #[{ name := "MIN_ARRAY_SORT_GRAN", type := .int, accessFlags := 26, slot := 0, constantValue := 0 }, { name := "INSERTIONSORT_THRESHOLD", type := .int, accessFlags := 26, slot := 1, constantValue := 0 }, { name := "$assertionsDisabled", type := .boolean, accessFlags := 4120, slot := 2, constantValue := 0 }]
  methods := #[k16m0, k16m1, k16m2, k16m3]
  instanceTypes := #[]
  staticTypes := #[.int, .int, .boolean]
  resolved := Array.replicate 1029 none
  statics := none }

def pool17 : Array CpInfo := pool [(1, .class_ 2), (0, u "java/lang/Math"), (1, .class_ 6), (1, u "java/lang/Object"), (0, u "<init>"), (0, u "()V"), (89, .class_ 100), (1, u "java/lang/Math$RandomNumberGeneratorHolder"), (71, u "negativeZeroFloatBits"), (0, u "J"), (2, u "negativeZeroDoubleBits"), (24, u "min"), (43, u "$assertionsDisabled"), (0, u "Z"), (88, u "(II)I"), (2, u "twoToTheDoubleScaleDown"), (0, u "D"), (4, u "twoToTheDoubleScaleUp"), (9, u "E"), (3, u "PI"), (2, u "TAU"), (2, u "DEGREES_TO_RADIANS"), (0, u "RADIANS_TO_DEGREES")] 94

def k17m0 : Method := { name := "<init>", desc := "()V", sig := { parameters := [], returnType := none }, accessFlags := 2, code := none }
def k17c1 : Code := { maxStack := 2, maxLocals := 2, code := jdk_29_method_69_code, exceptionTable := #[], attributes := #[] }
def k17m1 : Method := { name := "min", desc := "(II)I", sig := { parameters := [.int, .int], returnType := some .int }, accessFlags := 9, code := some k17c1 }
/-- java/lang/Math -/
def k17 : Class := { plain "java/lang/Math" (some 0) with
  accessFlags := 49
  interfaces := #[]
  cf := some (fileOf pool17 1 #[.nestMembers #[98]] #[{ accessFlags := 2, nameIndex := 7, descriptorIndex := 8, attributes := #[] }, { accessFlags := 9, nameIndex := 201, descriptorIndex := 335, attributes := #[] }] 49 4 #[] #[{ accessFlags := 25, nameIndex := 354, descriptorIndex := 339, attributes := #[] }, { accessFlags := 25, nameIndex := 358, descriptorIndex := 339, attributes := #[] }, { accessFlags := 25, nameIndex := 361, descriptorIndex := 339, attributes := #[] }, { accessFlags := 26, nameIndex := 364, descriptorIndex := 339, attributes := #[] }, { accessFlags := 26, nameIndex := 365, descriptorIndex := 339, attributes := #[] }, { accessFlags := 26, nameIndex := 172, descriptorIndex := 173, attributes := #[] }, { accessFlags := 26, nameIndex := 176, descriptorIndex := 173, attributes := #[] }, { accessFlags := 8, nameIndex := 344, descriptorIndex := 339, attributes := #[] }, { accessFlags := 8, nameIndex := 338, descriptorIndex := 339, attributes := #[] }, { accessFlags := 4120, nameIndex := 245, descriptorIndex := 246, attributes := #[] }])
  fields := #[{ name := "E", type := .double, accessFlags := 25, slot := 0, constantValue := 0 }, { name := "PI", type := .double, accessFlags := 25, slot := 1, constantValue := 0 }, { name := "TAU", type := .double, accessFlags := 25, slot := 2, constantValue := 0 }, { name := "DEGREES_TO_RADIANS", type := .double, accessFlags := 26, slot := 3, constantValue := 0 }, { name := "RADIANS_TO_DEGREES", type := .double, accessFlags := 26, slot := 4, constantValue := 0 }, { name := "negativeZeroFloatBits", type := .long, accessFlags := 26, slot := 5, constantValue := 0 }, { name := "negativeZeroDoubleBits", type := .long, accessFlags := 26, slot := 6, constantValue := 0 }, { name := "twoToTheDoubleScaleUp", type := .double, accessFlags := 8, slot := 7, constantValue := 0 }, { name := "twoToTheDoubleScaleDown", type := .double, accessFlags := 8, slot := 8, constantValue := 0 }, { name := "$assertionsDisabled", type := .boolean, accessFlags := 4120, slot := 9, constantValue := 0 }]
  methods := #[k17m0, k17m1]
  instanceTypes := #[]
  staticTypes := #[.double, .double, .double, .double, .double, .long, .long, .double, .double, .boolean]
  resolved := Array.replicate 460 none
  statics := none }

def pool18 : Array CpInfo := pool [(1, .class_ 2), (0, u "java/lang/String"), (1, .class_ 6), (1, u "java/lang/Object"), (0, u "<init>"), (0, u "()V"), (0, .methodref 1 10), (0, .nameAndType 11 12), (0, u "checkIndex"), (0, u "(II)V"), (1, .class_ 16), (1, u "java/lang/StringLatin1"), (36, u "([BI)C"), (67, u "$assertionsDisabled"), (0, u "Z"), (98, .class_ 223), (1, u "java/lang/StringLatin1$LinesSpliterator"), (28, u "charAt"), (137, .class_ 391), (0, u "java/lang/StringLatin1$CharsSpliterator")] 3

def k18m0 : Method := { name := "<init>", desc := "()V", sig := { parameters := [], returnType := none }, accessFlags := 0, code := none }
def k18c1 : Code := { maxStack := 2, maxLocals := 2, code := jdk_43_method_2_code, exceptionTable := #[], attributes := #[] }
def k18m1 : Method := { name := "charAt", desc := "([BI)C", sig := { parameters := [(.array .byte), .int], returnType := some .char }, accessFlags := 9, code := some k18c1 }
/-- java/lang/StringLatin1 -/
def k18 : Class := { plain "java/lang/StringLatin1" (some 0) with
  accessFlags := 48
  interfaces := #[]
  cf := some (fileOf pool18 14 #[.nestMembers #[390, 221]] #[{ accessFlags := 0, nameIndex := 7, descriptorIndex := 8, attributes := #[] }, { accessFlags := 9, nameIndex := 252, descriptorIndex := 53, attributes := #[] }] 48 4 #[] #[{ accessFlags := 4120, nameIndex := 121, descriptorIndex := 122, attributes := #[] }])
  fields := #[{ name := "$assertionsDisabled", type := .boolean, accessFlags := 4120, slot := 0, constantValue := 0 }]
  methods := #[k18m0, k18m1]
  instanceTypes := #[]
  staticTypes := #[.boolean]
  resolved := Array.replicate 395 none
  statics := none }

def pool19 : Array CpInfo := pool [(2, .class_ 4), (1, u "java/lang/Object"), (0, u "<init>"), (0, u "()V"), (17, .class_ 26), (1, u "jdk/internal/util/Preconditions"), (6, u "checkIndex"), (21, .class_ 56), (0, u "jdk/internal/util/Preconditions$4"), (57, .class_ 115), (0, u "jdk/internal/util/Preconditions$1"), (7, u "SIOOBE_FORMATTER"), (0, u "Ljava/util/function/BiFunction;"), (0, .class_ 126), (0, u "jdk/internal/util/Preconditions$2"), (3, u "AIOOBE_FORMATTER"), (0, .class_ 132), (0, u "jdk/internal/util/Preconditions$3"), (3, u "IOOBE_FORMATTER"), (41, u "(IILjava/util/function/BiFunction;)I")] 15

def k19m0 : Method := { name := "<init>", desc := "()V", sig := { parameters := [], returnType := none }, accessFlags := 1, code := none }
def k19c1 : Code := { maxStack := 3, maxLocals := 3, code := jdk_41_method_11_code, exceptionTable := #[], attributes := #[] }
def k19m1 : Method := { name := "checkIndex", desc := "(IILjava/util/function/BiFunction;)I", sig := { parameters := [.int, .int, (.object "java/util/function/BiFunction")], returnType := some .int }, accessFlags := 9, code := some k19c1 }
/-- jdk/internal/util/Preconditions -/
def k19 : Class := { plain "jdk/internal/util/Preconditions" (some 0) with
  accessFlags := 33
  interfaces := #[]
  cf := some (fileOf pool19 24 #[.nestMembers #[55, 131, 125, 114]] #[{ accessFlags := 1, nameIndex := 5, descriptorIndex := 6, attributes := #[] }, { accessFlags := 9, nameIndex := 33, descriptorIndex := 178, attributes := #[] }] 33 2 #[] #[{ accessFlags := 25, nameIndex := 123, descriptorIndex := 124, attributes := #[] }, { accessFlags := 25, nameIndex := 130, descriptorIndex := 124, attributes := #[] }, { accessFlags := 25, nameIndex := 136, descriptorIndex := 124, attributes := #[] }])
  fields := #[{ name := "SIOOBE_FORMATTER", type := (.object "java/util/function/BiFunction"), accessFlags := 25, slot := 0, constantValue := 0 }, { name := "AIOOBE_FORMATTER", type := (.object "java/util/function/BiFunction"), accessFlags := 25, slot := 1, constantValue := 0 }, { name := "IOOBE_FORMATTER", type := (.object "java/util/function/BiFunction"), accessFlags := 25, slot := 2, constantValue := 0 }]
  methods := #[k19m0, k19m1]
  instanceTypes := #[]
  staticTypes := #[(.object "java/util/function/BiFunction"), (.object "java/util/function/BiFunction"), (.object "java/util/function/BiFunction")]
  resolved := Array.replicate 194 none
  statics := some 1 }

def pool20 : Array CpInfo := pool [(9, u "<init>"), (6, .class_ 18), (1, u "java/lang/Object"), (0, u "()V"), (1, .class_ 23), (1, u "jdk/internal/util/ArraysSupport"), (0, u "LOG2_ARRAY_LONG_INDEX_SCALE"), (0, u "I"), (2, u "U"), (0, u "Ljdk/internal/misc/Unsafe;"), (8, u "BIG_ENDIAN"), (0, u "Z"), (8, u "LOG2_BYTE_BIT_SIZE"), (4, u "LOG2_ARRAY_INT_INDEX_SCALE"), (54, u "JLA"), (0, u "Ljdk/internal/access/JavaLangAccess;"), (11, u "LOG2_ARRAY_BOOLEAN_INDEX_SCALE"), (9, u "LOG2_ARRAY_BYTE_INDEX_SCALE"), (5, u "LOG2_ARRAY_CHAR_INDEX_SCALE"), (5, u "LOG2_ARRAY_SHORT_INDEX_SCALE"), (18, u "LOG2_ARRAY_FLOAT_INDEX_SCALE"), (24, u "LOG2_ARRAY_DOUBLE_INDEX_SCALE"), (89, u "T_BOOLEAN"), (2, u "T_CHAR"), (1, u "T_FLOAT"), (1, u "T_DOUBLE"), (1, u "T_BYTE"), (1, u "T_SHORT"), (1, u "T_INT"), (1, u "T_LONG"), (1, u "SOFT_MAX_ARRAY_LENGTH")] 83

def k20m0 : Method := { name := "<init>", desc := "()V", sig := { parameters := [], returnType := none }, accessFlags := 2, code := none }
/-- jdk/internal/util/ArraysSupport -/
def k20 : Class := { plain "jdk/internal/util/ArraysSupport" (some 0) with
  accessFlags := 33
  interfaces := #[]
  cf := some (fileOf pool20 21 #[] #[{ accessFlags := 2, nameIndex := 9, descriptorIndex := 19, attributes := #[] }] 33 16 #[] #[{ accessFlags := 24, nameIndex := 28, descriptorIndex := 29, attributes := #[] }, { accessFlags := 26, nameIndex := 38, descriptorIndex := 39, attributes := #[] }, { accessFlags := 25, nameIndex := 121, descriptorIndex := 25, attributes := #[] }, { accessFlags := 25, nameIndex := 131, descriptorIndex := 25, attributes := #[] }, { accessFlags := 25, nameIndex := 137, descriptorIndex := 25, attributes := #[] }, { accessFlags := 25, nameIndex := 143, descriptorIndex := 25, attributes := #[] }, { accessFlags := 25, nameIndex := 53, descriptorIndex := 25, attributes := #[] }, { accessFlags := 25, nameIndex := 24, descriptorIndex := 25, attributes := #[] }, { accessFlags := 25, nameIndex := 162, descriptorIndex := 25, attributes := #[] }, { accessFlags := 25, nameIndex := 187, descriptorIndex := 25, attributes := #[] }, { accessFlags := 26, nameIndex := 48, descriptorIndex := 25, attributes := #[] }, { accessFlags := 25, nameIndex := 277, descriptorIndex := 25, attributes := #[] }, { accessFlags := 25, nameIndex := 280, descriptorIndex := 25, attributes := #[] }, { accessFlags := 25, nameIndex := 282, descriptorIndex := 25, attributes := #[] }, { accessFlags := 25, nameIndex := 284, descriptorIndex := 25, attributes := #[] }, { accessFlags := 25, nameIndex := 286, descriptorIndex := 25, attributes := #[] }, { accessFlags := 25, nameIndex := 288, descriptorIndex := 25, attributes := #[] }, { accessFlags := 25, nameIndex := 290, descriptorIndex := 25, attributes := #[] }, { accessFlags := 25, nameIndex := 292, descriptorIndex := 25, attributes := #[] }, { accessFlags := 26, nameIndex := 108, descriptorIndex := 109, attributes := #[] }, { accessFlags := 25, nameIndex := 294, descriptorIndex := 25, attributes := #[] }])
  fields := #[{ name := "U", type := (.object "jdk/internal/misc/Unsafe"), accessFlags := 24, slot := 0, constantValue := 0 }, { name := "BIG_ENDIAN", type := .boolean, accessFlags := 26, slot := 1, constantValue := 0 }, { name := "LOG2_ARRAY_BOOLEAN_INDEX_SCALE", type := .int, accessFlags := 25, slot := 2, constantValue := 0 }, { name := "LOG2_ARRAY_BYTE_INDEX_SCALE", type := .int, accessFlags := 25, slot := 3, constantValue := 0 }, { name := "LOG2_ARRAY_CHAR_INDEX_SCALE", type := .int, accessFlags := 25, slot := 4, constantValue := 0 }, { name := "LOG2_ARRAY_SHORT_INDEX_SCALE", type := .int, accessFlags := 25, slot := 5, constantValue := 0 }, { name := "LOG2_ARRAY_INT_INDEX_SCALE", type := .int, accessFlags := 25, slot := 6, constantValue := 0 }, { name := "LOG2_ARRAY_LONG_INDEX_SCALE", type := .int, accessFlags := 25, slot := 7, constantValue := 0 }, { name := "LOG2_ARRAY_FLOAT_INDEX_SCALE", type := .int, accessFlags := 25, slot := 8, constantValue := 0 }, { name := "LOG2_ARRAY_DOUBLE_INDEX_SCALE", type := .int, accessFlags := 25, slot := 9, constantValue := 0 }, { name := "LOG2_BYTE_BIT_SIZE", type := .int, accessFlags := 26, slot := 10, constantValue := 0 }, { name := "T_BOOLEAN", type := .int, accessFlags := 25, slot := 11, constantValue := 0 }, { name := "T_CHAR", type := .int, accessFlags := 25, slot := 12, constantValue := 0 }, { name := "T_FLOAT", type := .int, accessFlags := 25, slot := 13, constantValue := 0 }, { name := "T_DOUBLE", type := .int, accessFlags := 25, slot := 14, constantValue := 0 }, { name := "T_BYTE", type := .int, accessFlags := 25, slot := 15, constantValue := 0 }, { name := "T_SHORT", type := .int, accessFlags := 25, slot := 16, constantValue := 0 }, { name := "T_INT", type := .int, accessFlags := 25, slot := 17, constantValue := 0 }, { name := "T_LONG", type := .int, accessFlags := 25, slot := 18, constantValue := 0 }, { name := "JLA", type := (.object "jdk/internal/access/JavaLangAccess"), accessFlags := 26, slot := 19, constantValue := 0 }, { name := "SOFT_MAX_ARRAY_LENGTH", type := .int, accessFlags := 25, slot := 20, constantValue := 0 }]
  methods := #[k20m0]
  instanceTypes := #[]
  staticTypes := #[(.object "jdk/internal/misc/Unsafe"), .boolean, .int, .int, .int, .int, .int, .int, .int, .int, .int, .int, .int, .int, .int, .int, .int, .int, .int, (.object "jdk/internal/access/JavaLangAccess"), .int]
  resolved := Array.replicate 378 none
  statics := none }

def pool21 : Array CpInfo := pool [(1, u "java/lang/Cloneable"), (0, .class_ 1), (0, u "java/lang/Object"), (0, .class_ 3)] 3

/-- java/lang/Cloneable -/
def k21 : Class := { plain "java/lang/Cloneable" (some 0) with
  accessFlags := 1537
  interfaces := #[]
  cf := some (fileOf pool21 2 #[] #[] 1537 4 #[] #[])
  fields := #[]
  methods := #[]
  instanceTypes := #[]
  staticTypes := #[]
  resolved := Array.replicate 8 none
  statics := none }

/-- the primitive byte -/
def k22 : Class := { plain "byte" none with kind := .primitive 'B', accessFlags := 0x411 }
/-- [B -/
def k23 : Class := { plain "[B" (some 0) with kind := .array 22 .byte, interfaces := #[21, 2], accessFlags := 1041 }

/-- the primitive char -/
def k24 : Class := { plain "char" none with kind := .primitive 'C', accessFlags := 0x411 }
/-- [C -/
def k25 : Class := { plain "[C" (some 0) with kind := .array 24 .char, interfaces := #[21, 2], accessFlags := 1041 }

/-- the primitive int -/
def k26 : Class := { plain "int" none with kind := .primitive 'I', accessFlags := 0x411 }
/-- [I -/
def k27 : Class := { plain "[I" (some 0) with kind := .array 26 .int, interfaces := #[21, 2], accessFlags := 1041 }

def heap : Heap := #[{ cls := 7, slots := #[.long 0, .int 1, .null, .int 0, .null, .int 0, .int 0], vm := .statics 7 },
  { cls := 19, slots := #[.null, .null, .null], vm := .statics 19 }]
def classes : Array Class := #[k0, k1, k2, k3, k4, k5, k6, k7, k8, k9, k10, k11, k12, k13, k14, k15, k16, k17, k18, k19, k20, k21, k22, k23, k24, k25, k26, k27]
def interned : List (Array UInt16 × Addr) := []
def slotsUsed : Nat := 10
def theMethod : MethodId := ⟨1, 1⟩
def args0 : Array Value := #[.int 500, .int 100, .int 6]
def aboutOver (below : List Frame) : State where
  vm := { classes := classes, interned := interned.toArray }
  heap := heap
  slotsUsed := slotsUsed
  threads := #[{ frames := .invoking theMethod args0 :: below }]
def below0 : List Frame := [.native { method := ⟨0, 0⟩, args := #[] }]
def about1 : State := aboutOver below0
def p0 : Program := .bare "" "" ""
def e0 : Env := launch0.env 0 0 0
theorem w_frames : about1.frames = Frame.invoking theMethod args0 :: below0 := rfl
set_option maxRecDepth 65536 in
theorem w_args : argsFit about1.vm theMethod args0 = true := by decide +kernel
set_option maxRecDepth 65536 in
theorem w_heap : heapFits about1 = true := by decide +kernel
set_option maxRecDepth 65536 in
theorem w_runnable : about1.curStatus? = some .runnable := by decide +kernel
set_option maxRecDepth 65536 in
theorem w_alone : about1.alone = true := by decide +kernel
set_option maxRecDepth 65536 in
theorem w_named : about1.methodNamed? x = some theMethod := by decide +kernel
set_option maxRecDepth 65536 in
theorem w_hears : about1.hears theMethod below0 = true := by decide +kernel
set_option maxRecDepth 65536 in
theorem w_ripe : about1.ripe theMethod args0 below0 = true := by decide +kernel
theorem w_running : about1.status = .running := rfl
set_option maxRecDepth 65536 in
theorem w_room : about1.hasRoom e0.platform room_1 = true :=
  launch0.hasRoom_least _ room_1 (by decide +kernel) (by decide +kernel) (by decide +kernel) (by decide +kernel) (by decide +kernel) (by decide +kernel)
theorem allAtoms_all (ts : List Jvm.Cond) (a : Array Jvm.Value) (st : Jvm.State) : (allAtoms ts).before a st = ts.all (fun c => c.before a st) := by
  induction ts with
  | nil => rfl
  | cons c t ih =>
    show (Jvm.Cond.and c (allAtoms t)).before a st = _
    rw [Jvm.Cond.before_and, ih, List.all_cons]
def words1 : List Jvm.Cond := Jvm.Cond.code x code maxLocals ret :: tables_1
/-- a 'code' word, met by the world's own term for the bytes: nothing is compared byte by byte -/
theorem code_word {y : MethodName} {bytes : ByteArray} {mx : Nat} {rt : Option FieldType} {a : Array Value} {s : State} {m : MethodId} {meth : Method} {c : Code} (h1 : s.methodNamed? y = some m) (h2 : s.vm.method? m = some meth) (h3 : meth.code = some c) (h4 : c.code = bytes)
    (h5 : (c.maxLocals == mx && c.exceptionTable.isEmpty && decide (c.maxStack ≤ mostOperands) && decide (meth.sig.returnType = rt) && !meth.locks && decide (parseMethodDescriptor y.desc = some meth.sig)) = true) : (Jvm.Cond.code y bytes mx rt).before a s = true := by
  simp only [Bool.and_eq_true, beq_iff_eq, Bool.not_eq_true', decide_eq_true_eq] at h5
  obtain ⟨⟨⟨⟨⟨g1, g2⟩, g3⟩, g4⟩, g5⟩, g6⟩ := h5
  simp [Cond.before, Cond.holds, Cond.value, h1, h2, h3, h4, g1, g2, g3, g4, g5, g6]
def isCode : Jvm.Cond → Bool
  | .code _ _ _ _ => true
  | _ => false
theorem all_split {L : List Jvm.Cond} {P : Jvm.Cond → Bool} (h1 : L.all (fun c => isCode c || P c) = true) (h2 : ∀ c ∈ L.filter isCode, P c = true) : L.all P = true := by
  refine List.all_eq_true.mpr fun c hc => ?_
  have h := List.all_eq_true.mp h1 c hc
  rcases Bool.eq_false_or_eq_true (isCode c) with hi | hi
  · exact h2 c (List.mem_filter.mpr ⟨hc, hi⟩)
  · simpa [hi] using h
set_option maxRecDepth 65536 in
theorem w_c0 : (Jvm.Cond.code x code maxLocals ret).before args0 about1 = true := code_word (m := ⟨1, 1⟩) (meth := k1m1) (c := k1c1) (by decide +kernel) rfl rfl rfl (by decide +kernel)
set_option maxRecDepth 65536 in
theorem w_c1 : (Jvm.Cond.code ({ cls := "com/example/grantgraph/grantgraph/store/ObjectRefToStringPinLaw", name := "make", desc := "(II)Ljava/lang/String;" } : Jvm.MethodName) method_5_code (2 : Nat) (Option.some (Jvm.ClassFile.FieldType.object "java/lang/String"))).before args0 about1 = true := code_word (m := ⟨1, 4⟩) (meth := k1m4) (c := k1c4) (by decide +kernel) rfl rfl rfl (by decide +kernel)
set_option maxRecDepth 65536 in
theorem w_c2 : (Jvm.Cond.code ({ cls := "com/example/grantgraph/grantgraph/store/ObjectRefToStringPinLaw", name := "ch", desc := "(II)C" } : Jvm.MethodName) method_4_code (2 : Nat) (Option.some Jvm.ClassFile.FieldType.char)).before args0 about1 = true := code_word (m := ⟨1, 3⟩) (meth := k1m3) (c := k1c3) (by decide +kernel) rfl rfl rfl (by decide +kernel)
set_option maxRecDepth 65536 in
theorem w_c3 : (Jvm.Cond.code ({ cls := "java/lang/String", name := "<init>", desc := "([C)V" } : Jvm.MethodName) jdk_42_method_3_code (2 : Nat) (Option.none : Option Jvm.ClassFile.FieldType)).before args0 about1 = true := code_word (m := ⟨7, 1⟩) (meth := k7m1) (c := k7c1) (by decide +kernel) rfl rfl rfl (by decide +kernel)
set_option maxRecDepth 65536 in
theorem w_c4 : (Jvm.Cond.code ({ cls := "java/lang/String", name := "<init>", desc := "([CIILjava/lang/Void;)V" } : Jvm.MethodName) jdk_42_method_149_code (6 : Nat) (Option.none : Option Jvm.ClassFile.FieldType)).before args0 about1 = true := code_word (m := ⟨7, 6⟩) (meth := k7m6) (c := k7c6) (by decide +kernel) rfl rfl rfl (by decide +kernel)
set_option maxRecDepth 65536 in
theorem w_c5 : (Jvm.Cond.code ({ cls := "java/lang/Object", name := "<init>", desc := "()V" } : Jvm.MethodName) object_method_1_code (1 : Nat) (Option.none : Option Jvm.ClassFile.FieldType)).before args0 about1 = true := code_word (m := ⟨0, 0⟩) (meth := k0m0) (c := k0c0) (by decide +kernel) rfl rfl rfl (by decide +kernel)
set_option maxRecDepth 65536 in
theorem w_c6 : (Jvm.Cond.code ({ cls := "java/lang/StringUTF16", name := "compress", desc := "([CII)[B" } : Jvm.MethodName) jdk_52_method_16_code (6 : Nat) (Option.some (Jvm.ClassFile.FieldType.array Jvm.ClassFile.FieldType.byte))).before args0 about1 = true := code_word (m := ⟨8, 2⟩) (meth := k8m2) (c := k8c2) (by decide +kernel) rfl rfl rfl (by decide +kernel)
set_option maxRecDepth 65536 in
theorem w_c7 : (Jvm.Cond.code ({ cls := "java/lang/StringUTF16", name := "compress", desc := "([CI[BII)I" } : Jvm.MethodName) jdk_52_method_21_code (7 : Nat) (Option.some Jvm.ClassFile.FieldType.int)).before args0 about1 = true := code_word (m := ⟨8, 3⟩) (meth := k8m3) (c := k8c3) (by decide +kernel) rfl rfl rfl (by decide +kernel)
set_option maxRecDepth 65536 in
theorem w_c8 : (Jvm.Cond.code ({ cls := "java/lang/StringUTF16", name := "coderFromArrayLen", desc := "([BI)B" } : Jvm.MethodName) jdk_52_method_15_code (2 : Nat) (Option.some Jvm.ClassFile.FieldType.byte)).before args0 about1 = true := code_word (m := ⟨8, 1⟩) (meth := k8m1) (c := k8c1) (by decide +kernel) rfl rfl rfl (by decide +kernel)
set_option maxRecDepth 65536 in
theorem w_c9 : (Jvm.Cond.code ({ cls := "com/example/grantgraph/grantgraph/store/ObjectRef", name := "<init>", desc := "(Ljava/lang/String;Ljava/lang/String;)V" } : Jvm.MethodName) prog_36_method_1_code (3 : Nat) (Option.none : Option Jvm.ClassFile.FieldType)).before args0 about1 = true := code_word (m := ⟨11, 0⟩) (meth := k11m0) (c := k11c0) (by decide +kernel) rfl rfl rfl (by decide +kernel)
set_option maxRecDepth 65536 in
theorem w_c10 : (Jvm.Cond.code ({ cls := "java/lang/Record", name := "<init>", desc := "()V" } : Jvm.MethodName) jdk_30_method_1_code (1 : Nat) (Option.none : Option Jvm.ClassFile.FieldType)).before args0 about1 = true := code_word (m := ⟨9, 0⟩) (meth := k9m0) (c := k9c0) (by decide +kernel) rfl rfl rfl (by decide +kernel)
set_option maxRecDepth 65536 in
theorem w_c11 : (Jvm.Cond.code ({ cls := "com/example/grantgraph/grantgraph/store/ObjectRef", name := "toString", desc := "()Ljava/lang/String;" } : Jvm.MethodName) prog_36_method_2_code (1 : Nat) (Option.some (Jvm.ClassFile.FieldType.object "java/lang/String"))).before args0 about1 = true := code_word (m := ⟨11, 1⟩) (meth := k11m1) (c := k11c1) (by decide +kernel) rfl rfl rfl (by decide +kernel)
set_option maxRecDepth 65536 in
theorem w_c12 : (Jvm.Cond.code ({ cls := "java/lang/StringBuilder", name := "<init>", desc := "()V" } : Jvm.MethodName) jdk_67_method_1_code (1 : Nat) (Option.none : Option Jvm.ClassFile.FieldType)).before args0 about1 = true := code_word (m := ⟨14, 0⟩) (meth := k14m0) (c := k14c0) (by decide +kernel) rfl rfl rfl (by decide +kernel)
set_option maxRecDepth 65536 in
theorem w_c13 : (Jvm.Cond.code ({ cls := "java/lang/AbstractStringBuilder", name := "<init>", desc := "(I)V" } : Jvm.MethodName) jdk_68_method_2_code (2 : Nat) (Option.none : Option Jvm.ClassFile.FieldType)).before args0 about1 = true := code_word (m := ⟨13, 1⟩) (meth := k13m1) (c := k13c1) (by decide +kernel) rfl rfl rfl (by decide +kernel)
set_option maxRecDepth 65536 in
theorem w_c14 : (Jvm.Cond.code ({ cls := "java/lang/StringBuilder", name := "append", desc := "(Ljava/lang/String;)Ljava/lang/StringBuilder;" } : Jvm.MethodName) jdk_67_method_7_code (2 : Nat) (Option.some (Jvm.ClassFile.FieldType.object "java/lang/StringBuilder"))).before args0 about1 = true := code_word (m := ⟨14, 1⟩) (meth := k14m1) (c := k14c1) (by decide +kernel) rfl rfl rfl (by decide +kernel)
set_option maxRecDepth 65536 in
theorem w_c15 : (Jvm.Cond.code ({ cls := "java/lang/AbstractStringBuilder", name := "append", desc := "(Ljava/lang/String;)Ljava/lang/AbstractStringBuilder;" } : Jvm.MethodName) jdk_68_method_22_code (3 : Nat) (Option.some (Jvm.ClassFile.FieldType.object "java/lang/AbstractStringBuilder"))).before args0 about1 = true := code_word (m := ⟨13, 4⟩) (meth := k13m4) (c := k13c4) (by decide +kernel) rfl rfl rfl (by decide +kernel)
set_option maxRecDepth 65536 in
theorem w_c16 : (Jvm.Cond.code ({ cls := "java/lang/String", name := "length", desc := "()I" } : Jvm.MethodName) jdk_42_method_54_code (1 : Nat) (Option.some Jvm.ClassFile.FieldType.int)).before args0 about1 = true := code_word (m := ⟨7, 3⟩) (meth := k7m3) (c := k7c3) (by decide +kernel) rfl rfl rfl (by decide +kernel)
set_option maxRecDepth 65536 in
theorem w_c17 : (Jvm.Cond.code ({ cls := "java/lang/String", name := "coder", desc := "()B" } : Jvm.MethodName) jdk_42_method_152_code (1 : Nat) (Option.some Jvm.ClassFile.FieldType.byte)).before args0 about1 = true := code_word (m := ⟨7, 8⟩) (meth := k7m8) (c := k7c8) (by decide +kernel) rfl rfl rfl (by decide +kernel)
set_option maxRecDepth 65536 in
theorem w_c18 : (Jvm.Cond.code ({ cls := "java/lang/AbstractStringBuilder", name := "ensureCapacityInternal", desc := "(I)V" } : Jvm.MethodName) jdk_68_method_9_code (3 : Nat) (Option.none : Option Jvm.ClassFile.FieldType)).before args0 about1 = true := code_word (m := ⟨13, 3⟩) (meth := k13m3) (c := k13c3) (by decide +kernel) rfl rfl rfl (by decide +kernel)
set_option maxRecDepth 65536 in
theorem w_c19 : (Jvm.Cond.code ({ cls := "java/lang/AbstractStringBuilder", name := "putStringAt", desc := "(ILjava/lang/String;)V" } : Jvm.MethodName) jdk_68_method_73_code (3 : Nat) (Option.none : Option Jvm.ClassFile.FieldType)).before args0 about1 = true := code_word (m := ⟨13, 8⟩) (meth := k13m8) (c := k13c8) (by decide +kernel) rfl rfl rfl (by decide +kernel)
set_option maxRecDepth 65536 in
theorem w_c20 : (Jvm.Cond.code ({ cls := "java/lang/AbstractStringBuilder", name := "inflateIfNeededFor", desc := "(Ljava/lang/String;)V" } : Jvm.MethodName) jdk_68_method_71_code (2 : Nat) (Option.none : Option Jvm.ClassFile.FieldType)).before args0 about1 = true := code_word (m := ⟨13, 7⟩) (meth := k13m7) (c := k13c7) (by decide +kernel) rfl rfl rfl (by decide +kernel)
set_option maxRecDepth 65536 in
theorem w_c21 : (Jvm.Cond.code ({ cls := "java/lang/String", name := "getBytes", desc := "([BIB)V" } : Jvm.MethodName) jdk_42_method_147_code (4 : Nat) (Option.none : Option Jvm.ClassFile.FieldType)).before args0 about1 = true := code_word (m := ⟨7, 5⟩) (meth := k7m5) (c := k7c5) (by decide +kernel) rfl rfl rfl (by decide +kernel)
set_option maxRecDepth 65536 in
theorem w_c22 : (Jvm.Cond.code ({ cls := "java/lang/StringBuilder", name := "toString", desc := "()Ljava/lang/String;" } : Jvm.MethodName) jdk_67_method_42_code (1 : Nat) (Option.some (Jvm.ClassFile.FieldType.object "java/lang/String"))).before args0 about1 = true := code_word (m := ⟨14, 2⟩) (meth := k14m2) (c := k14c2) (by decide +kernel) rfl rfl rfl (by decide +kernel)
set_option maxRecDepth 65536 in
theorem w_c23 : (Jvm.Cond.code ({ cls := "java/lang/String", name := "<init>", desc := "(Ljava/lang/StringBuilder;)V" } : Jvm.MethodName) jdk_42_method_53_code (2 : Nat) (Option.none : Option Jvm.ClassFile.FieldType)).before args0 about1 = true := code_word (m := ⟨7, 2⟩) (meth := k7m2) (c := k7c2) (by decide +kernel) rfl rfl rfl (by decide +kernel)
set_option maxRecDepth 65536 in
theorem w_c24 : (Jvm.Cond.code ({ cls := "java/lang/String", name := "<init>", desc := "(Ljava/lang/AbstractStringBuilder;Ljava/lang/Void;)V" } : Jvm.MethodName) jdk_42_method_150_code (5 : Nat) (Option.none : Option Jvm.ClassFile.FieldType)).before args0 about1 = true := code_word (m := ⟨7, 7⟩) (meth := k7m7) (c := k7c7) (by decide +kernel) rfl rfl rfl (by decide +kernel)
set_option maxRecDepth 65536 in
theorem w_c25 : (Jvm.Cond.code ({ cls := "java/lang/AbstractStringBuilder", name := "getValue", desc := "()[B" } : Jvm.MethodName) jdk_68_method_64_code (1 : Nat) (Option.some (Jvm.ClassFile.FieldType.array Jvm.ClassFile.FieldType.byte))).before args0 about1 = true := code_word (m := ⟨13, 5⟩) (meth := k13m5) (c := k13c5) (by decide +kernel) rfl rfl rfl (by decide +kernel)
set_option maxRecDepth 65536 in
theorem w_c26 : (Jvm.Cond.code ({ cls := "java/lang/StringBuilder", name := "length", desc := "()I" } : Jvm.MethodName) jdk_67_method_93_code (1 : Nat) (Option.some Jvm.ClassFile.FieldType.int)).before args0 about1 = true := code_word (m := ⟨14, 3⟩) (meth := k14m3) (c := k14c3) (by decide +kernel) rfl rfl rfl (by decide +kernel)
set_option maxRecDepth 65536 in
theorem w_c27 : (Jvm.Cond.code ({ cls := "java/lang/AbstractStringBuilder", name := "length", desc := "()I" } : Jvm.MethodName) jdk_68_method_6_code (1 : Nat) (Option.some Jvm.ClassFile.FieldType.int)).before args0 about1 = true := code_word (m := ⟨13, 2⟩) (meth := k13m2) (c := k13c2) (by decide +kernel) rfl rfl rfl (by decide +kernel)
set_option maxRecDepth 65536 in
theorem w_c28 : (Jvm.Cond.code ({ cls := "java/lang/AbstractStringBuilder", name := "isLatin1", desc := "()Z" } : Jvm.MethodName) jdk_68_method_68_code (1 : Nat) (Option.some Jvm.ClassFile.FieldType.boolean)).before args0 about1 = true := code_word (m := ⟨13, 6⟩) (meth := k13m6) (c := k13c6) (by decide +kernel) rfl rfl rfl (by decide +kernel)
set_option maxRecDepth 65536 in
theorem w_c29 : (Jvm.Cond.code ({ cls := "java/util/Arrays", name := "copyOfRange", desc := "([BII)[B" } : Jvm.MethodName) jdk_65_method_132_code (3 : Nat) (Option.some (Jvm.ClassFile.FieldType.array Jvm.ClassFile.FieldType.byte))).before args0 about1 = true := code_word (m := ⟨16, 2⟩) (meth := k16m2) (c := k16c2) (by decide +kernel) rfl rfl rfl (by decide +kernel)
set_option maxRecDepth 65536 in
theorem w_c30 : (Jvm.Cond.code ({ cls := "java/util/Arrays", name := "copyOfRangeByte", desc := "([BII)[B" } : Jvm.MethodName) jdk_65_method_133_code (5 : Nat) (Option.some (Jvm.ClassFile.FieldType.array Jvm.ClassFile.FieldType.byte))).before args0 about1 = true := code_word (m := ⟨16, 3⟩) (meth := k16m3) (c := k16c3) (by decide +kernel) rfl rfl rfl (by decide +kernel)
set_option maxRecDepth 65536 in
theorem w_c31 : (Jvm.Cond.code ({ cls := "java/util/Arrays", name := "checkLength", desc := "(II)V" } : Jvm.MethodName) jdk_65_method_131_code (2 : Nat) (Option.none : Option Jvm.ClassFile.FieldType)).before args0 about1 = true := code_word (m := ⟨16, 1⟩) (meth := k16m1) (c := k16c1) (by decide +kernel) rfl rfl rfl (by decide +kernel)
set_option maxRecDepth 65536 in
theorem w_c32 : (Jvm.Cond.code ({ cls := "java/lang/Math", name := "min", desc := "(II)I" } : Jvm.MethodName) jdk_29_method_69_code (2 : Nat) (Option.some Jvm.ClassFile.FieldType.int)).before args0 about1 = true := code_word (m := ⟨17, 1⟩) (meth := k17m1) (c := k17c1) (by decide +kernel) rfl rfl rfl (by decide +kernel)
set_option maxRecDepth 65536 in
theorem w_c33 : (Jvm.Cond.code ({ cls := "com/example/grantgraph/grantgraph/store/ObjectRefToStringPinLaw", name := "ok", desc := "(Ljava/lang/String;IIIII)Z" } : Jvm.MethodName) method_3_code (7 : Nat) (Option.some Jvm.ClassFile.FieldType.boolean)).before args0 about1 = true := code_word (m := ⟨1, 2⟩) (meth := k1m2) (c := k1c2) (by decide +kernel) rfl rfl rfl (by decide +kernel)
set_option maxRecDepth 65536 in
theorem w_c34 : (Jvm.Cond.code ({ cls := "java/lang/String", name := "charAt", desc := "(I)C" } : Jvm.MethodName) jdk_42_method_56_code (2 : Nat) (Option.some Jvm.ClassFile.FieldType.char)).before args0 about1 = true := code_word (m := ⟨7, 4⟩) (meth := k7m4) (c := k7c4) (by decide +kernel) rfl rfl rfl (by decide +kernel)
set_option maxRecDepth 65536 in
theorem w_c35 : (Jvm.Cond.code ({ cls := "java/lang/String", name := "isLatin1", desc := "()Z" } : Jvm.MethodName) jdk_42_method_154_code (1 : Nat) (Option.some Jvm.ClassFile.FieldType.boolean)).before args0 about1 = true := code_word (m := ⟨7, 9⟩) (meth := k7m9) (c := k7c9) (by decide +kernel) rfl rfl rfl (by decide +kernel)
set_option maxRecDepth 65536 in
theorem w_c36 : (Jvm.Cond.code ({ cls := "java/lang/StringLatin1", name := "charAt", desc := "([BI)C" } : Jvm.MethodName) jdk_43_method_2_code (2 : Nat) (Option.some Jvm.ClassFile.FieldType.char)).before args0 about1 = true := code_word (m := ⟨18, 1⟩) (meth := k18m1) (c := k18c1) (by decide +kernel) rfl rfl rfl (by decide +kernel)
set_option maxRecDepth 65536 in
theorem w_c37 : (Jvm.Cond.code ({ cls := "java/lang/String", name := "checkIndex", desc := "(II)V" } : Jvm.MethodName) jdk_42_method_155_code (2 : Nat) (Option.none : Option Jvm.ClassFile.FieldType)).before args0 about1 = true := code_word (m := ⟨7, 10⟩) (meth := k7m10) (c := k7c10) (by decide +kernel) rfl rfl rfl (by decide +kernel)
set_option maxRecDepth 65536 in
theorem w_c38 : (Jvm.Cond.code ({ cls := "jdk/internal/util/Preconditions", name := "checkIndex", desc := "(IILjava/util/function/BiFunction;)I" } : Jvm.MethodName) jdk_41_method_11_code (3 : Nat) (Option.some Jvm.ClassFile.FieldType.int)).before args0 about1 = true := code_word (m := ⟨19, 1⟩) (meth := k19m1) (c := k19c1) (by decide +kernel) rfl rfl rfl (by decide +kernel)
def codes1 : List Jvm.Cond := [Jvm.Cond.code x code maxLocals ret, Jvm.Cond.code ({ cls := "com/example/grantgraph/grantgraph/store/ObjectRefToStringPinLaw", name := "make", desc := "(II)Ljava/lang/String;" } : Jvm.MethodName) method_5_code (2 : Nat) (Option.some (Jvm.ClassFile.FieldType.object "java/lang/String")), Jvm.Cond.code ({ cls := "com/example/grantgraph/grantgraph/store/ObjectRefToStringPinLaw", name := "ch", desc := "(II)C" } : Jvm.MethodName) method_4_code (2 : Nat) (Option.some Jvm.ClassFile.FieldType.char), Jvm.Cond.code ({ cls := "java/lang/String", name := "<init>", desc := "([C)V" } : Jvm.MethodName) jdk_42_method_3_code (2 : Nat) (Option.none : Option Jvm.ClassFile.FieldType), Jvm.Cond.code ({ cls := "java/lang/String", name := "<init>", desc := "([CIILjava/lang/Void;)V" } : Jvm.MethodName) jdk_42_method_149_code (6 : Nat) (Option.none : Option Jvm.ClassFile.FieldType), Jvm.Cond.code ({ cls := "java/lang/Object", name := "<init>", desc := "()V" } : Jvm.MethodName) object_method_1_code (1 : Nat) (Option.none : Option Jvm.ClassFile.FieldType), Jvm.Cond.code ({ cls := "java/lang/StringUTF16", name := "compress", desc := "([CII)[B" } : Jvm.MethodName) jdk_52_method_16_code (6 : Nat) (Option.some (Jvm.ClassFile.FieldType.array Jvm.ClassFile.FieldType.byte)), Jvm.Cond.code ({ cls := "java/lang/StringUTF16", name := "compress", desc := "([CI[BII)I" } : Jvm.MethodName) jdk_52_method_21_code (7 : Nat) (Option.some Jvm.ClassFile.FieldType.int), Jvm.Cond.code ({ cls := "java/lang/StringUTF16", name := "coderFromArrayLen", desc := "([BI)B" } : Jvm.MethodName) jdk_52_method_15_code (2 : Nat) (Option.some Jvm.ClassFile.FieldType.byte), Jvm.Cond.code ({ cls := "com/example/grantgraph/grantgraph/store/ObjectRef", name := "<init>", desc := "(Ljava/lang/String;Ljava/lang/String;)V" } : Jvm.MethodName) prog_36_method_1_code (3 : Nat) (Option.none : Option Jvm.ClassFile.FieldType), Jvm.Cond.code ({ cls := "java/lang/Record", name := "<init>", desc := "()V" } : Jvm.MethodName) jdk_30_method_1_code (1 : Nat) (Option.none : Option Jvm.ClassFile.FieldType), Jvm.Cond.code ({ cls := "com/example/grantgraph/grantgraph/store/ObjectRef", name := "toString", desc := "()Ljava/lang/String;" } : Jvm.MethodName) prog_36_method_2_code (1 : Nat) (Option.some (Jvm.ClassFile.FieldType.object "java/lang/String")), Jvm.Cond.code ({ cls := "java/lang/StringBuilder", name := "<init>", desc := "()V" } : Jvm.MethodName) jdk_67_method_1_code (1 : Nat) (Option.none : Option Jvm.ClassFile.FieldType), Jvm.Cond.code ({ cls := "java/lang/AbstractStringBuilder", name := "<init>", desc := "(I)V" } : Jvm.MethodName) jdk_68_method_2_code (2 : Nat) (Option.none : Option Jvm.ClassFile.FieldType), Jvm.Cond.code ({ cls := "java/lang/StringBuilder", name := "append", desc := "(Ljava/lang/String;)Ljava/lang/StringBuilder;" } : Jvm.MethodName) jdk_67_method_7_code (2 : Nat) (Option.some (Jvm.ClassFile.FieldType.object "java/lang/StringBuilder")), Jvm.Cond.code ({ cls := "java/lang/AbstractStringBuilder", name := "append", desc := "(Ljava/lang/String;)Ljava/lang/AbstractStringBuilder;" } : Jvm.MethodName) jdk_68_method_22_code (3 : Nat) (Option.some (Jvm.ClassFile.FieldType.object "java/lang/AbstractStringBuilder")), Jvm.Cond.code ({ cls := "java/lang/String", name := "length", desc := "()I" } : Jvm.MethodName) jdk_42_method_54_code (1 : Nat) (Option.some Jvm.ClassFile.FieldType.int), Jvm.Cond.code ({ cls := "java/lang/String", name := "coder", desc := "()B" } : Jvm.MethodName) jdk_42_method_152_code (1 : Nat) (Option.some Jvm.ClassFile.FieldType.byte), Jvm.Cond.code ({ cls := "java/lang/AbstractStringBuilder", name := "ensureCapacityInternal", desc := "(I)V" } : Jvm.MethodName) jdk_68_method_9_code (3 : Nat) (Option.none : Option Jvm.ClassFile.FieldType), Jvm.Cond.code ({ cls := "java/lang/AbstractStringBuilder", name := "putStringAt", desc := "(ILjava/lang/String;)V" } : Jvm.MethodName) jdk_68_method_73_code (3 : Nat) (Option.none : Option Jvm.ClassFile.FieldType), Jvm.Cond.code ({ cls := "java/lang/AbstractStringBuilder", name := "inflateIfNeededFor", desc := "(Ljava/lang/String;)V" } : Jvm.MethodName) jdk_68_method_71_code (2 : Nat) (Option.none : Option Jvm.ClassFile.FieldType), Jvm.Cond.code ({ cls := "java/lang/String", name := "getBytes", desc := "([BIB)V" } : Jvm.MethodName) jdk_42_method_147_code (4 : Nat) (Option.none : Option Jvm.ClassFile.FieldType), Jvm.Cond.code ({ cls := "java/lang/StringBuilder", name := "toString", desc := "()Ljava/lang/String;" } : Jvm.MethodName) jdk_67_method_42_code (1 : Nat) (Option.some (Jvm.ClassFile.FieldType.object "java/lang/String")), Jvm.Cond.code ({ cls := "java/lang/String", name := "<init>", desc := "(Ljava/lang/StringBuilder;)V" } : Jvm.MethodName) jdk_42_method_53_code (2 : Nat) (Option.none : Option Jvm.ClassFile.FieldType), Jvm.Cond.code ({ cls := "java/lang/String", name := "<init>", desc := "(Ljava/lang/AbstractStringBuilder;Ljava/lang/Void;)V" } : Jvm.MethodName) jdk_42_method_150_code (5 : Nat) (Option.none : Option Jvm.ClassFile.FieldType), Jvm.Cond.code ({ cls := "java/lang/AbstractStringBuilder", name := "getValue", desc := "()[B" } : Jvm.MethodName) jdk_68_method_64_code (1 : Nat) (Option.some (Jvm.ClassFile.FieldType.array Jvm.ClassFile.FieldType.byte)), Jvm.Cond.code ({ cls := "java/lang/StringBuilder", name := "length", desc := "()I" } : Jvm.MethodName) jdk_67_method_93_code (1 : Nat) (Option.some Jvm.ClassFile.FieldType.int), Jvm.Cond.code ({ cls := "java/lang/AbstractStringBuilder", name := "length", desc := "()I" } : Jvm.MethodName) jdk_68_method_6_code (1 : Nat) (Option.some Jvm.ClassFile.FieldType.int), Jvm.Cond.code ({ cls := "java/lang/AbstractStringBuilder", name := "isLatin1", desc := "()Z" } : Jvm.MethodName) jdk_68_method_68_code (1 : Nat) (Option.some Jvm.ClassFile.FieldType.boolean), Jvm.Cond.code ({ cls := "java/util/Arrays", name := "copyOfRange", desc := "([BII)[B" } : Jvm.MethodName) jdk_65_method_132_code (3 : Nat) (Option.some (Jvm.ClassFile.FieldType.array Jvm.ClassFile.FieldType.byte)), Jvm.Cond.code ({ cls := "java/util/Arrays", name := "copyOfRangeByte", desc := "([BII)[B" } : Jvm.MethodName) jdk_65_method_133_code (5 : Nat) (Option.some (Jvm.ClassFile.FieldType.array Jvm.ClassFile.FieldType.byte)), Jvm.Cond.code ({ cls := "java/util/Arrays", name := "checkLength", desc := "(II)V" } : Jvm.MethodName) jdk_65_method_131_code (2 : Nat) (Option.none : Option Jvm.ClassFile.FieldType), Jvm.Cond.code ({ cls := "java/lang/Math", name := "min", desc := "(II)I" } : Jvm.MethodName) jdk_29_method_69_code (2 : Nat) (Option.some Jvm.ClassFile.FieldType.int), Jvm.Cond.code ({ cls := "com/example/grantgraph/grantgraph/store/ObjectRefToStringPinLaw", name := "ok", desc := "(Ljava/lang/String;IIIII)Z" } : Jvm.MethodName) method_3_code (7 : Nat) (Option.some Jvm.ClassFile.FieldType.boolean), Jvm.Cond.code ({ cls := "java/lang/String", name := "charAt", desc := "(I)C" } : Jvm.MethodName) jdk_42_method_56_code (2 : Nat) (Option.some Jvm.ClassFile.FieldType.char), Jvm.Cond.code ({ cls := "java/lang/String", name := "isLatin1", desc := "()Z" } : Jvm.MethodName) jdk_42_method_154_code (1 : Nat) (Option.some Jvm.ClassFile.FieldType.boolean), Jvm.Cond.code ({ cls := "java/lang/StringLatin1", name := "charAt", desc := "([BI)C" } : Jvm.MethodName) jdk_43_method_2_code (2 : Nat) (Option.some Jvm.ClassFile.FieldType.char), Jvm.Cond.code ({ cls := "java/lang/String", name := "checkIndex", desc := "(II)V" } : Jvm.MethodName) jdk_42_method_155_code (2 : Nat) (Option.none : Option Jvm.ClassFile.FieldType), Jvm.Cond.code ({ cls := "jdk/internal/util/Preconditions", name := "checkIndex", desc := "(IILjava/util/function/BiFunction;)I" } : Jvm.MethodName) jdk_41_method_11_code (3 : Nat) (Option.some Jvm.ClassFile.FieldType.int)]
set_option maxRecDepth 65536 in
theorem codes_eq : words1.filter isCode = codes1 := rfl
theorem w_codes : ∀ c ∈ words1.filter isCode, c.before args0 about1 = true := by
  rw [codes_eq]
  intro c hc
  simp only [codes1, List.mem_cons, List.not_mem_nil, or_false] at hc
  rcases hc with rfl | rfl | rfl | rfl | rfl | rfl | rfl | rfl | rfl | rfl | rfl | rfl | rfl | rfl | rfl | rfl | rfl | rfl | rfl | rfl | rfl | rfl | rfl | rfl | rfl | rfl | rfl | rfl | rfl | rfl | rfl | rfl | rfl | rfl | rfl | rfl | rfl | rfl | rfl
  · exact w_c0
  · exact w_c1
  · exact w_c2
  · exact w_c3
  · exact w_c4
  · exact w_c5
  · exact w_c6
  · exact w_c7
  · exact w_c8
  · exact w_c9
  · exact w_c10
  · exact w_c11
  · exact w_c12
  · exact w_c13
  · exact w_c14
  · exact w_c15
  · exact w_c16
  · exact w_c17
  · exact w_c18
  · exact w_c19
  · exact w_c20
  · exact w_c21
  · exact w_c22
  · exact w_c23
  · exact w_c24
  · exact w_c25
  · exact w_c26
  · exact w_c27
  · exact w_c28
  · exact w_c29
  · exact w_c30
  · exact w_c31
  · exact w_c32
  · exact w_c33
  · exact w_c34
  · exact w_c35
  · exact w_c36
  · exact w_c37
  · exact w_c38
set_option maxRecDepth 65536 in
theorem w_t1 : (words1.take 24).all (fun c => isCode c || c.before args0 about1) = true := by decide +kernel
set_option maxRecDepth 65536 in
theorem w_t2 : ((words1.drop 24).take 24).all (fun c => isCode c || c.before args0 about1) = true := by decide +kernel
set_option maxRecDepth 65536 in
theorem w_t3 : (((words1.drop 24).drop 24).take 24).all (fun c => isCode c || c.before args0 about1) = true := by decide +kernel
set_option maxRecDepth 65536 in
theorem w_t4 : ((((words1.drop 24).drop 24).drop 24).take 24).all (fun c => isCode c || c.before args0 about1) = true := by decide +kernel
set_option maxRecDepth 65536 in
theorem w_t5 : (((((words1.drop 24).drop 24).drop 24).drop 24).take 24).all (fun c => isCode c || c.before args0 about1) = true := by decide +kernel
set_option maxRecDepth 65536 in
theorem w_t6 : ((((((words1.drop 24).drop 24).drop 24).drop 24).drop 24).take 24).all (fun c => isCode c || c.before args0 about1) = true := by decide +kernel
set_option maxRecDepth 65536 in
theorem w_t7 : (((((((words1.drop 24).drop 24).drop 24).drop 24).drop 24).drop 24).take 24).all (fun c => isCode c || c.before args0 about1) = true := by decide +kernel
set_option maxRecDepth 65536 in
theorem w_t8 : ((((((((words1.drop 24).drop 24).drop 24).drop 24).drop 24).drop 24).drop 24).take 24).all (fun c => isCode c || c.before args0 about1) = true := by decide +kernel
set_option maxRecDepth 65536 in
theorem w_t9 : ((((((((words1.drop 24).drop 24).drop 24).drop 24).drop 24).drop 24).drop 24).drop 24).all (fun c => isCode c || c.before args0 about1) = true := by decide +kernel
theorem w_tables : (allAtoms (Jvm.Cond.code x code maxLocals ret :: tables_1)).before args0 about1 = true := by
  rw [allAtoms_all]
  show words1.all (fun c => c.before args0 about1) = true
  refine all_split ?_ w_codes
  rw [← List.take_append_drop 24 words1, List.all_append, w_t1, ← List.take_append_drop 24 (words1.drop 24), List.all_append, w_t2, ← List.take_append_drop 24 ((words1.drop 24).drop 24), List.all_append, w_t3, ← List.take_append_drop 24 (((words1.drop 24).drop 24).drop 24), List.all_append, w_t4, ← List.take_append_drop 24 ((((words1.drop 24).drop 24).drop 24).drop 24), List.all_append, w_t5, ← List.take_append_drop 24 (((((words1.drop 24).drop 24).drop 24).drop 24).drop 24), List.all_append, w_t6, ← List.take_append_drop 24 ((((((words1.drop 24).drop 24).drop 24).drop 24).drop 24).drop 24), List.all_append, w_t7, ← List.take_append_drop 24 (((((((words1.drop 24).drop 24).drop 24).drop 24).drop 24).drop 24).drop 24), List.all_append, w_t8, w_t9]
  rfl
set_option maxRecDepth 65536 in
theorem w_rest : rest_1_c.before args0 about1 = true := by decide +kernel
set_option maxRecDepth 65536 in
theorem w_case : (Jvm.Cond.and given_1 narrow_1).before args0 about1 = true := by decide +kernel
set_option maxRecDepth 65536 in
theorem w_consts : constsHeld consts_1 about1 := Jvm.Lit.constsHeldB_iff.mp (by decide +kernel)
theorem w_applies : (headSpec (Jvm.Cond.code x code maxLocals ret :: tables_1) room_1).applies x e0.platform about1 = true :=
  (Spec.applies_iff w_frames).mpr ⟨w_running, w_runnable, w_alone, w_named, w_hears, w_ripe, w_room, w_tables⟩
theorem atStart : AtStart classFile x code maxLocals ret World_1 tables_1 room_1 Calls_1 rest_1 Pre_1 launch0 p0 e0 about1 theMethod args0 below0 :=
  ⟨lists_1, trivial, launch0.admits_env _ _ _, launch0.least_env, fairChoices_fair.cas, fairChoices_fair.clock, w_frames, w_args, w_heap, w_applies, ⟨w_consts, trivial⟩, w_rest, w_case⟩
end start1
theorem witness_1 : WitnessClaimed_1 := ⟨start1.p0, start1.e0, start1.about1, start1.theMethod, start1.args0, start1.below0, start1.atStart⟩
end Jvm.Pilot.@@N@@
