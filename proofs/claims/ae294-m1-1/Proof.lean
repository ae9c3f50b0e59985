import JvmDerived
import JvmDerived.Pilot.@@N@@Statement
import JvmDerived.Pilot.@@N@@Code
set_option linter.unusedVariables false
set_option linter.unusedSimpArgs false
namespace Jvm.RoadKit
open Sem ClassFile Op Lib Jvm.Stand Jvm.Free Jvm.LawKit
section New
variable {p : Program} {l : Launch} {e : Env} {R : Room} {s : State} {m : MethodId} {args : Array Value} {below : List Frame} {meth : Method} {c : Code} {T T' : State} {locs : List Loc} {cells slots : Nat}
theorem retI (X : Stand p l e R s m args below meth c T locs cells slots) (hx : p.tables.exec = Jvm.exec) {pc : Nat} {Ls : Array Slot} {z : Int32} {rest : List Value} (hret : meth.sig.returnType = some .int) (hd : decode c.code pc = .ok (.ireturn, 1)) {fs : List Frame}
    (hl : ∀ (f : JFrame) (acts : List Action), f.method = m → f.locked = none → f.entered = [] → (doReturn e (T.setTop f) acts (some (.int z))).1 = T.setFrames fs) : Steps p.tables e below (T.setTop (mkF m pc Ls (.int z :: rest))) (T.setFrames fs) := by
  have hm' : T.vm.method? m = some meth := X.method'
  have hn : narrow .int (.int z) = .int z := rfl
  show Steps p.tables e below (T.setTop { method := m, pc := pc, locals := Ls, stack := _ :: rest, locked := none }) _
  jvm_step X.here [X.here.top, hx, hd, hm', hret, hn]
  first | (intro acts; rw [hl _ acts rfl rfl rfl]) | rw [hl _ _ rfl rfl rfl]
  exact Steps.refl _
/-- from here the run comes to its return, and Q holds of what it returns, of the heap and of what it wrote -/
def Go (p : Program) (e : Env) (below : List Frame) (s : State) (Q : Option Value → Heap → List Loc → Prop) (kc ks : Nat) (T : State) (g : JFrame) : Prop :=
  ∃ s₂ o, Steps p.tables e below (T.setTop g) s₂ ∧ s₂.status = .running ∧ Ended s₂ below o ∧ ∃ v L, o = .returned v ∧ Q v s₂.heap L ∧ FrameEnd s o s₂ L kc ks
variable {Q : Option Value → Heap → List Loc → Prop} {kc ks : Nat} {g g' : JFrame}
theorem Go.step (h : ∀ t, Steps p.tables e below (T'.setTop g') t → Steps p.tables e below (T.setTop g) t) (k : Go p e below s Q kc ks T' g') : Go p e below s Q kc ks T g := by
  obtain ⟨s₂, o, h1, r⟩ := k
  exact ⟨s₂, o, h _ h1, r⟩
theorem Go.cast (q : g = g') (k : Go p e below s Q kc ks T g') : Go p e below s Q kc ks T g := q ▸ k
theorem Go.done (X : Stand p l e R s m args below meth c T locs cells slots) (hlocks : meth.locks = false) {v : Option Value} (hv : meth.sig.returnType = none → v = none)
    (hret : ∀ fs, (∀ (f : JFrame) (acts : List Action), f.method = m → f.locked = none → f.entered = [] → (doReturn e (T.setTop f) acts v).1 = T.setFrames fs) → Steps p.tables e below (T.setTop g) (T.setFrames fs))
    {h : Heap} (eT : T.heap = h) (hQ : Q v h locs) (hc : cells ≤ kc) (hs : slots ≤ ks) : Go p e below s Q kc ks T g := by
  obtain ⟨fs, hr, hrun, hended, hW, hsame⟩ := X.leave hv hlocks
  refine ⟨_, _, hret fs hr, hrun, hended, _, _, rfl, ?_, ⟨_, rfl⟩, hW, hsame.mono hc hs⟩
  show Q v T.heap locs
  rw [eT]
  exact hQ
theorem Go.retV (X : Stand p l e R s m args below meth c T locs cells slots) (hx : p.tables.exec = Jvm.exec) (hlocks : meth.locks = false) (hr : meth.sig.returnType = none) {pc : Nat} {Ls : Array Slot} (hd : decode c.code pc = .ok (.return_, 1))
    {h : Heap} (eT : T.heap = h) (hQ : Q none h locs) (hc : cells ≤ kc) (hs : slots ≤ ks) : Go p e below s Q kc ks T (mkF m pc Ls []) :=
  Go.done X hlocks (fun _ => rfl) (fun fs k => X.returnOut hx hr hd k) eT hQ hc hs
theorem Go.retN (X : Stand p l e R s m args below meth c T locs cells slots) (hx : p.tables.exec = Jvm.exec) (hlocks : meth.locks = false) {t : FieldType} (hr : meth.sig.returnType = some t) (ht : t = .boolean ∨ t = .byte ∨ t = .char ∨ t = .short) {pc : Nat} {Ls : Array Slot} {z : Int32} {st : List Value} (hd : decode c.code pc = .ok (.ireturn, 1))
    {h : Heap} (eT : T.heap = h) (hQ : Q (some (.int (nar t z))) h locs) (hc : cells ≤ kc) (hs : slots ≤ ks) : Go p e below s Q kc ks T (mkF m pc Ls (.int z :: st)) :=
  Go.done X hlocks (fun q => by rw [hr] at q; cases q) (fun fs k => Jvm.RoadKit.retN X hx hr ht hd k) eT hQ hc hs
theorem Go.retI (X : Stand p l e R s m args below meth c T locs cells slots) (hx : p.tables.exec = Jvm.exec) (hlocks : meth.locks = false) (hr : meth.sig.returnType = some .int) {pc : Nat} {Ls : Array Slot} {z : Int32} {st : List Value} (hd : decode c.code pc = .ok (.ireturn, 1))
    {h : Heap} (eT : T.heap = h) (hQ : Q (some (.int z)) h locs) (hc : cells ≤ kc) (hs : slots ≤ ks) : Go p e below s Q kc ks T (mkF m pc Ls (.int z :: st)) :=
  Go.done X hlocks (fun q => by rw [hr] at q; cases q) (fun fs k => Jvm.RoadKit.retI X hx hr hd k) eT hQ hc hs
theorem Go.retJ (X : Stand p l e R s m args below meth c T locs cells slots) (hx : p.tables.exec = Jvm.exec) (hlocks : meth.locks = false) (hr : meth.sig.returnType = some .long) {pc : Nat} {Ls : Array Slot} {z : Int64} {st : List Value} (hd : decode c.code pc = .ok (.lreturn, 1))
    {h : Heap} (eT : T.heap = h) (hQ : Q (some (.long z)) h locs) (hc : cells ≤ kc) (hs : slots ≤ ks) : Go p e below s Q kc ks T (mkF m pc Ls (.long z :: st)) :=
  Go.done X hlocks (fun q => by rw [hr] at q; cases q) (fun fs k => retOut X hx hr rfl (Or.inr (Or.inl ⟨rfl, rfl, _, rfl⟩)) hd k) eT hQ hc hs
theorem Go.retA (X : Stand p l e R s m args below meth c T locs cells slots) (hx : p.tables.exec = Jvm.exec) (hlocks : meth.locks = false) {t : FieldType} (hr : meth.sig.returnType = some t) (ht : t.isReference = true) {w : Value} (hw : w.isRef = true) {pc : Nat} {Ls : Array Slot} {st : List Value} (hd : decode c.code pc = .ok (.areturn, 1))
    {h : Heap} (eT : T.heap = h) (hQ : Q (some w) h locs) (hc : cells ≤ kc) (hs : slots ≤ ks) : Go p e below s Q kc ks T (mkF m pc Ls (w :: st)) :=
  Go.done X hlocks (fun q => by rw [hr] at q; cases q) (fun fs k => retOut X hx hr (by cases t <;> first | (cases ht; done) | (rcases ref_cases hw with rfl | ⟨a, rfl⟩ <;> rfl)) (Or.inr (Or.inr (Or.inr (Or.inr ⟨rfl, ht, hw⟩)))) hd k) eT hQ hc hs
/-- .. where String constants may have been loaded on the way -/
def GoW (p : Program) (e : Env) (below : List Frame) (s : State) (Q : Option Value → Heap → List Loc → Prop) (kc ks : Nat) (T : State) (g : JFrame) : Prop :=
  ∃ s₂ o, Steps p.tables e below (T.setTop g) s₂ ∧ s₂.status = .running ∧ Ended s₂ below o ∧ ∃ v L, o = .returned v ∧ Q v s₂.heap L ∧ ReturnedEndW s o s₂ L kc ks
theorem GoW.step (h : ∀ t, Steps p.tables e below (T'.setTop g') t → Steps p.tables e below (T.setTop g) t) (k : GoW p e below s Q kc ks T' g') : GoW p e below s Q kc ks T g := by
  obtain ⟨s₂, o, h1, r⟩ := k
  exact ⟨s₂, o, h _ h1, r⟩
theorem GoW.cast (q : g = g') (k : GoW p e below s Q kc ks T g') : GoW p e below s Q kc ks T g := q ▸ k
theorem GoW.done {vm1 : Vm} {n : Nat} (X : Stand p l e R (s.setVm vm1) m args below meth c T locs cells slots) (hS : s.Since vm1 n) (hlocks : meth.locks = false) {v : Option Value} (hv : meth.sig.returnType = none → v = none)
    (hret : ∀ fs, (∀ (f : JFrame) (acts : List Action), f.method = m → f.locked = none → f.entered = [] → (doReturn e (T.setTop f) acts v).1 = T.setFrames fs) → Steps p.tables e below (T.setTop g) (T.setFrames fs))
    {h : Heap} (eT : T.heap = h) (hn : n ≤ h.size) (hQ : Q v h locs) (hc : cells ≤ kc) (hs : slots ≤ ks) : GoW p e below s Q kc ks T g := by
  obtain ⟨fs, hr, hrun, hended, hW⟩ := X.leaveW hS (by rw [eT]; exact hn) hv hlocks
  refine ⟨_, _, hret fs hr, hrun, hended, _, _, rfl, ?_, hW.1, hW.2.1, hW.2.2.1, hW.2.2.2.mono hc hs⟩
  show Q v T.heap locs
  rw [eT]
  exact hQ
theorem GoW.retV {vm1 : Vm} {n : Nat} (X : Stand p l e R (s.setVm vm1) m args below meth c T locs cells slots) (hS : s.Since vm1 n) (hx : p.tables.exec = Jvm.exec) (hlocks : meth.locks = false) (hr : meth.sig.returnType = none) {pc : Nat} {Ls : Array Slot} (hd : decode c.code pc = .ok (.return_, 1))
    {h : Heap} (eT : T.heap = h) (hn : n ≤ h.size) (hQ : Q none h locs) (hc : cells ≤ kc) (hs : slots ≤ ks) : GoW p e below s Q kc ks T (mkF m pc Ls []) :=
  GoW.done X hS hlocks (fun _ => rfl) (fun fs k => X.returnOut hx hr hd k) eT hn hQ hc hs
theorem GoW.retN {vm1 : Vm} {n : Nat} (X : Stand p l e R (s.setVm vm1) m args below meth c T locs cells slots) (hS : s.Since vm1 n) (hx : p.tables.exec = Jvm.exec) (hlocks : meth.locks = false) {t : FieldType} (hr : meth.sig.returnType = some t) (ht : t = .boolean ∨ t = .byte ∨ t = .char ∨ t = .short) {pc : Nat} {Ls : Array Slot} {z : Int32} {st : List Value} (hd : decode c.code pc = .ok (.ireturn, 1))
    {h : Heap} (eT : T.heap = h) (hn : n ≤ h.size) (hQ : Q (some (.int (nar t z))) h locs) (hc : cells ≤ kc) (hs : slots ≤ ks) : GoW p e below s Q kc ks T (mkF m pc Ls (.int z :: st)) :=
  GoW.done X hS hlocks (fun q => by rw [hr] at q; cases q) (fun fs k => Jvm.RoadKit.retN X hx hr ht hd k) eT hn hQ hc hs
theorem GoW.retI {vm1 : Vm} {n : Nat} (X : Stand p l e R (s.setVm vm1) m args below meth c T locs cells slots) (hS : s.Since vm1 n) (hx : p.tables.exec = Jvm.exec) (hlocks : meth.locks = false) (hr : meth.sig.returnType = some .int) {pc : Nat} {Ls : Array Slot} {z : Int32} {st : List Value} (hd : decode c.code pc = .ok (.ireturn, 1))
    {h : Heap} (eT : T.heap = h) (hn : n ≤ h.size) (hQ : Q (some (.int z)) h locs) (hc : cells ≤ kc) (hs : slots ≤ ks) : GoW p e below s Q kc ks T (mkF m pc Ls (.int z :: st)) :=
  GoW.done X hS hlocks (fun q => by rw [hr] at q; cases q) (fun fs k => Jvm.RoadKit.retI X hx hr hd k) eT hn hQ hc hs
theorem GoW.retJ {vm1 : Vm} {n : Nat} (X : Stand p l e R (s.setVm vm1) m args below meth c T locs cells slots) (hS : s.Since vm1 n) (hx : p.tables.exec = Jvm.exec) (hlocks : meth.locks = false) (hr : meth.sig.returnType = some .long) {pc : Nat} {Ls : Array Slot} {z : Int64} {st : List Value} (hd : decode c.code pc = .ok (.lreturn, 1))
    {h : Heap} (eT : T.heap = h) (hn : n ≤ h.size) (hQ : Q (some (.long z)) h locs) (hc : cells ≤ kc) (hs : slots ≤ ks) : GoW p e below s Q kc ks T (mkF m pc Ls (.long z :: st)) :=
  GoW.done X hS hlocks (fun q => by rw [hr] at q; cases q) (fun fs k => retOut X hx hr rfl (Or.inr (Or.inl ⟨rfl, rfl, _, rfl⟩)) hd k) eT hn hQ hc hs
theorem GoW.retA {vm1 : Vm} {n : Nat} (X : Stand p l e R (s.setVm vm1) m args below meth c T locs cells slots) (hS : s.Since vm1 n) (hx : p.tables.exec = Jvm.exec) (hlocks : meth.locks = false) {t : FieldType} (hr : meth.sig.returnType = some t) (ht : t.isReference = true) {w : Value} (hw : w.isRef = true) {pc : Nat} {Ls : Array Slot} {st : List Value} (hd : decode c.code pc = .ok (.areturn, 1))
    {h : Heap} (eT : T.heap = h) (hn : n ≤ h.size) (hQ : Q (some w) h locs) (hc : cells ≤ kc) (hs : slots ≤ ks) : GoW p e below s Q kc ks T (mkF m pc Ls (w :: st)) :=
  GoW.done X hS hlocks (fun q => by rw [hr] at q; cases q) (fun fs k => retOut X hx hr (by cases t <;> first | (cases ht; done) | (rcases ref_cases hw with rfl | ⟨a, rfl⟩ <;> rfl)) (Or.inr (Or.inr (Or.inr (Or.inr ⟨rfl, ht, hw⟩)))) hd k) eT hn hQ hc hs
end New
end Jvm.RoadKit
namespace Jvm.Pilot.@@N@@
open Jvm Jvm.ClassFile Sem Op Lib Jvm.Free Jvm.Stand Jvm.LawKit Jvm.RoadKit Bundle Jvm.Pilot.@@N@@.Jvm.D
theorem own_selP {s : State} {args : Array Value} {y : MethodName} {n : Nat} (wi : (Cond.instantiable y.cls n).before args s = true) (hp : s.PrivateAt y) (hinst : (Cond.instanceMethod y).before args s = true) (hy : y.cls ≠ "java/lang/invoke/MethodHandle" ∧ y.cls ≠ "java/lang/invoke/VarHandle") : (Cond.selects y.cls y y).before args s = true := by
  obtain ⟨c, k, h1, h2, -, h4, -⟩ := Cond.instantiable_spec wi
  exact Jvm.Stand.selects_self_of_private h1 h2 (by simp only [Bool.or_eq_false_iff] at h4; exact h4.1) hp hinst hy
theorem own_selQ {s : State} {args : Array Value} {y : MethodName} {C : String} (w : (Cond.selects C y y).before args s = true) (hp : s.PrivateAt y) (hinst : (Cond.instanceMethod y).before args s = true) (hy : y.cls ≠ "java/lang/invoke/MethodHandle" ∧ y.cls ≠ "java/lang/invoke/VarHandle") : (Cond.selects y.cls y y).before args s = true := by
  obtain ⟨mk, methM, hnamed, -, -, -⟩ := Cond.instanceMethod_spec hinst
  obtain ⟨kr, h1, h2⟩ := notFace_of_selects w mk hnamed
  exact Jvm.Stand.selects_self_of_private (findClass_of_methodNamed hnamed) h1 h2 hp hinst hy
theorem own_cat {v : Value} (h : v.isRef = true) : v.category = 1 := by rcases ref_cases h with rfl | ⟨a, rfl⟩ <;> rfl
theorem own_mod3 (x : Int32) : (x &&& (2147483647 : Int32)) % (3 : Int32) = (0 : Int32) ∨ (x &&& (2147483647 : Int32)) % (3 : Int32) = (1 : Int32) ∨ (x &&& (2147483647 : Int32)) % (3 : Int32) = (2 : Int32) := by
  have h := c_and x (2147483647 : Int32) (by decide)
  have r := (c_irem (x &&& (2147483647 : Int32)) (3 : Int32) 3 rfl).1 h.1
  simp only [← Int32.toInt_inj]
  rw [r]
  show _ = 0 ∨ _ = 1 ∨ _ = 2
  omega
theorem own_pick (j : Int32) (h : j = (0 : Int32) ∨ j = (1 : Int32) ∨ j = (2 : Int32)) (a b c : Addr) : ∃ t, (([(.ref a), (.ref b), (.ref c)] : List Value).getD (j).toNatClampNeg .null = .ref t ∧ (¬ j < 0 ∧ j < (3 : Int32))) ∧ (t = a ∨ t = b ∨ t = c) := by
  rcases h with rfl | rfl | rfl
  · exact ⟨a, ⟨rfl, by decide, by decide⟩, Or.inl rfl⟩
  · exact ⟨b, ⟨rfl, by decide, by decide⟩, Or.inr (Or.inl rfl)⟩
  · exact ⟨c, ⟨rfl, by decide, by decide⟩, Or.inr (Or.inr rfl)⟩
theorem own_pickF {Z : State} {h : Heap} {t a b c : Addr} {C f d : String} {j : Int32} (hj : j = (0 : Int32) ∨ j = (1 : Int32) ∨ j = (2 : Int32)) (q : ([(.ref a), (.ref b), (.ref c)] : List Value).getD (j).toNatClampNeg .null = .ref t) (A : Fld Z h a C f d (.int (0 : Int32))) (B : Fld Z h b C f d (.int (1 : Int32))) (D : Fld Z h c C f d (.int (2 : Int32))) : Fld Z h t C f d (.int j) := by
  rcases hj with rfl | rfl | rfl
  · cases q; exact A
  · cases q; exact B
  · cases q; exact D
def own_at (i q : Int32) (x y : Value) : Value := if i = q then x else y
theorem own_atR {i q : Int32} {x y : Value} (hx : x.isRef = true) (hy : y.isRef = true) : (own_at i q x y).isRef = true := by unfold own_at; split <;> assumption
def own_or (r : Value) (a : Addr) : Value := match r with | .null => .ref a | v => v
theorem own_orR {r : Value} {a : Addr} (h : r.isRef = true) : (own_or r a).isRef = true := by rcases ref_cases h with rfl | ⟨b, rfl⟩ <;> rfl
theorem own_in3 {i : Int32} (h : i = (0 : Int32) ∨ i = (1 : Int32) ∨ i = (2 : Int32)) : ¬ i < 0 ∧ i < (3 : Int32) := by rcases h with rfl | rfl | rfl <;> decide
theorem own_lt3 {i : Int32} (h : i = (0 : Int32) ∨ i = (1 : Int32) ∨ i = (2 : Int32)) {a b c : Value} : i.toNatClampNeg < [a, b, c].length := by
  rcases h with rfl | rfl | rfl <;> (show Int32.toNatClampNeg _ < 3; decide)
theorem own_set3 {i : Int32} (h : i = (0 : Int32) ∨ i = (1 : Int32) ∨ i = (2 : Int32)) {a b c x : Value} : [a, b, c].set i.toNatClampNeg x = [own_at i (0 : Int32) x a, own_at i (1 : Int32) x b, own_at i (2 : Int32) x c] := by rcases h with rfl | rfl | rfl <;> rfl
def own_e1 (i1 q : Int32) (tq t1 : Addr) : Addr := if i1 = q then t1 else tq
def own_e2 (i1 i2 q : Int32) (tq t1 t2 : Addr) : Addr := if i2 = q then t2 else own_e1 i1 q tq t1
theorem own_fin1 (i1 q : Int32) (b t1 : Addr) : own_or (own_at i1 q (.ref t1) .null) b = .ref (own_e1 i1 q b t1) := by unfold own_at own_e1; split <;> rfl
theorem own_fin2 (i1 i2 q : Int32) (b t1 t2 : Addr) : own_or (own_at i2 q (.ref t2) (own_at i1 q (.ref t1) .null)) b = .ref (own_e2 i1 i2 q b t1 t2) := by
  unfold own_e2
  by_cases h : i2 = q
  · rw [own_at, if_pos h, if_pos h]; rfl
  · rw [own_at, if_neg h, if_neg h]; exact own_fin1 i1 q b t1
theorem own_pickE {Z : State} {h : Heap} {t a b c : Addr} {C : String} (q : t = a ∨ t = b ∨ t = c) (A : Exa Z h a C) (B : Exa Z h b C) (D : Exa Z h c C) : Exa Z h t C := by
  rcases q with rfl | rfl | rfl <;> assumption
theorem own_arrAt {s : State} {a : Addr} {cell : Cell} (h : s.arrayAt? a = some cell) : s.heap[a]? = some cell := by
  unfold State.arrayAt? at h
  cases hh : s.heap[a]? with
  | none => simp [hh] at h
  | some w =>
    simp only [hh, Option.bind_eq_bind, Option.bind_some] at h
    cases hk : s.vm.classes[w.cls]? with
    | none => simp [hk] at h
    | some k =>
      simp only [hk, Option.bind_some] at h
      split at h
      · cases h
      · split at h
        · cases h; rfl
        · cases h
theorem own_len {args : Array Value} {s : State} {t : Term} {z : Int32} {a : Addr} {cl : Cell} (h : (Cond.eq (Term.length t) (Term.int z)).value args s none s [] = some true) (ht : t.eval args s none [] s = some (.ref a)) (hc : s.heap[a]? = some cl) : cl.slots.size < 2 ^ 31 ∧ cl.slots.size.toInt32 = z := by
  obtain ⟨x, y, e1, e2, k1, k2⟩ := cmp_v (Or.inl h)
  obtain ⟨a', cell, q1, q2, q3⟩ := Term.length_spec e1
  cases ht.symm.trans q1
  cases (own_arrAt q2).symm.trans hc
  have lt : cl.slots.size < 2 ^ 31 := by
    by_cases w : cl.slots.size < 2 ^ 31
    · exact w
    · simp [Term.eval, ht, q2, w] at e1
  refine ⟨lt, ?_⟩
  subst q3
  have q := Cond.eq_ints e1 (Term.int_eval z)
  exact gotT q h
theorem d10_0 : decode jdk_22_method_1_code 0 = .ok (.aload_n 0, 1) := by decide +kernel
theorem d10_1 : decode jdk_22_method_1_code 1 = .ok (.invokespecial 1, 3) := by decide +kernel
theorem d10_4 : decode jdk_22_method_1_code 4 = .ok (.return_, 1) := by decide +kernel
theorem d23_0 : decode jdk_29_method_65_code 0 = .ok (.iload_n 0, 1) := by decide +kernel
theorem d23_1 : decode jdk_29_method_65_code 1 = .ok (.iload_n 1, 1) := by decide +kernel
theorem d23_2 : decode jdk_29_method_65_code 2 = .ok (.if_icmp .lt 7, 3) := by decide +kernel
theorem d23_5 : decode jdk_29_method_65_code 5 = .ok (.iload_n 0, 1) := by decide +kernel
theorem d23_6 : decode jdk_29_method_65_code 6 = .ok (.goto 4, 3) := by decide +kernel
theorem d23_10 : decode jdk_29_method_65_code 10 = .ok (.ireturn, 1) := by decide +kernel
theorem d20_0 : decode jdk_38_method_24_code 0 = .ok (.iload_n 3, 1) := by decide +kernel
theorem d20_1 : decode jdk_38_method_24_code 1 = .ok (.aload_n 2, 1) := by decide +kernel
theorem d20_2 : decode jdk_38_method_24_code 2 = .ok (.arraylength, 1) := by decide +kernel
theorem d20_3 : decode jdk_38_method_24_code 3 = .ok (.if_icmp .ne 8, 3) := by decide +kernel
theorem d20_6 : decode jdk_38_method_24_code 6 = .ok (.aload_n 0, 1) := by decide +kernel
theorem d20_7 : decode jdk_38_method_24_code 7 = .ok (.invokevirtual 129, 3) := by decide +kernel
theorem d20_10 : decode jdk_38_method_24_code 10 = .ok (.astore_n 2, 1) := by decide +kernel
theorem d20_11 : decode jdk_38_method_24_code 11 = .ok (.aload_n 2, 1) := by decide +kernel
theorem d20_12 : decode jdk_38_method_24_code 12 = .ok (.iload_n 3, 1) := by decide +kernel
theorem d20_13 : decode jdk_38_method_24_code 13 = .ok (.aload_n 1, 1) := by decide +kernel
theorem d20_14 : decode jdk_38_method_24_code 14 = .ok (.aastore, 1) := by decide +kernel
theorem d20_15 : decode jdk_38_method_24_code 15 = .ok (.aload_n 0, 1) := by decide +kernel
theorem d20_16 : decode jdk_38_method_24_code 16 = .ok (.iload_n 3, 1) := by decide +kernel
theorem d20_17 : decode jdk_38_method_24_code 17 = .ok (.iconst 1, 1) := by decide +kernel
theorem d20_18 : decode jdk_38_method_24_code 18 = .ok (.iadd, 1) := by decide +kernel
theorem d20_19 : decode jdk_38_method_24_code 19 = .ok (.putfield 48, 3) := by decide +kernel
theorem d20_22 : decode jdk_38_method_24_code 22 = .ok (.return_, 1) := by decide +kernel
theorem d19_0 : decode jdk_38_method_25_code 0 = .ok (.aload_n 0, 1) := by decide +kernel
theorem d19_1 : decode jdk_38_method_25_code 1 = .ok (.dup, 1) := by decide +kernel
theorem d19_2 : decode jdk_38_method_25_code 2 = .ok (.getfield 63, 3) := by decide +kernel
theorem d19_5 : decode jdk_38_method_25_code 5 = .ok (.iconst 1, 1) := by decide +kernel
theorem d19_6 : decode jdk_38_method_25_code 6 = .ok (.iadd, 1) := by decide +kernel
theorem d19_7 : decode jdk_38_method_25_code 7 = .ok (.putfield 63, 3) := by decide +kernel
theorem d19_10 : decode jdk_38_method_25_code 10 = .ok (.aload_n 0, 1) := by decide +kernel
theorem d19_11 : decode jdk_38_method_25_code 11 = .ok (.aload_n 1, 1) := by decide +kernel
theorem d19_12 : decode jdk_38_method_25_code 12 = .ok (.aload_n 0, 1) := by decide +kernel
theorem d19_13 : decode jdk_38_method_25_code 13 = .ok (.getfield 9, 3) := by decide +kernel
theorem d19_16 : decode jdk_38_method_25_code 16 = .ok (.aload_n 0, 1) := by decide +kernel
theorem d19_17 : decode jdk_38_method_25_code 17 = .ok (.getfield 48, 3) := by decide +kernel
theorem d19_20 : decode jdk_38_method_25_code 20 = .ok (.invokevirtual 131, 3) := by decide +kernel
theorem d19_23 : decode jdk_38_method_25_code 23 = .ok (.iconst 1, 1) := by decide +kernel
theorem d19_24 : decode jdk_38_method_25_code 24 = .ok (.ireturn, 1) := by decide +kernel
theorem d8_0 : decode jdk_38_method_2_code 0 = .ok (.aload_n 0, 1) := by decide +kernel
theorem d8_1 : decode jdk_38_method_2_code 1 = .ok (.invokespecial 1, 3) := by decide +kernel
theorem d8_4 : decode jdk_38_method_2_code 4 = .ok (.aload_n 0, 1) := by decide +kernel
theorem d8_5 : decode jdk_38_method_2_code 5 = .ok (.getstatic 39, 3) := by decide +kernel
theorem d8_8 : decode jdk_38_method_2_code 8 = .ok (.putfield 9, 3) := by decide +kernel
theorem d8_11 : decode jdk_38_method_2_code 11 = .ok (.return_, 1) := by decide +kernel
theorem d15_0 : decode jdk_38_method_55_code 0 = .ok (.new 267, 3) := by decide +kernel
theorem d15_3 : decode jdk_38_method_55_code 3 = .ok (.dup, 1) := by decide +kernel
theorem d15_4 : decode jdk_38_method_55_code 4 = .ok (.aload_n 0, 1) := by decide +kernel
theorem d15_5 : decode jdk_38_method_55_code 5 = .ok (.invokespecial 269, 3) := by decide +kernel
theorem d15_8 : decode jdk_38_method_55_code 8 = .ok (.areturn, 1) := by decide +kernel
theorem d22_0 : decode jdk_38_method_6_code 0 = .ok (.aload_n 0, 1) := by decide +kernel
theorem d22_1 : decode jdk_38_method_6_code 1 = .ok (.getfield 9, 3) := by decide +kernel
theorem d22_4 : decode jdk_38_method_6_code 4 = .ok (.arraylength, 1) := by decide +kernel
theorem d22_5 : decode jdk_38_method_6_code 5 = .ok (.istore_n 2, 1) := by decide +kernel
theorem d22_6 : decode jdk_38_method_6_code 6 = .ok (.iload_n 2, 1) := by decide +kernel
theorem d22_7 : decode jdk_38_method_6_code 7 = .ok (.ifCond .gt 13, 3) := by decide +kernel
theorem d22_10 : decode jdk_38_method_6_code 10 = .ok (.aload_n 0, 1) := by decide +kernel
theorem d22_11 : decode jdk_38_method_6_code 11 = .ok (.getfield 9, 3) := by decide +kernel
theorem d22_14 : decode jdk_38_method_6_code 14 = .ok (.getstatic 39, 3) := by decide +kernel
theorem d22_17 : decode jdk_38_method_6_code 17 = .ok (.if_acmp .eq 28, 3) := by decide +kernel
theorem d22_45 : decode jdk_38_method_6_code 45 = .ok (.aload_n 0, 1) := by decide +kernel
theorem d22_46 : decode jdk_38_method_6_code 46 = .ok (.bipush 10, 2) := by decide +kernel
theorem d22_48 : decode jdk_38_method_6_code 48 = .ok (.iload_n 1, 1) := by decide +kernel
theorem d22_49 : decode jdk_38_method_6_code 49 = .ok (.invokestatic 79, 3) := by decide +kernel
theorem d22_52 : decode jdk_38_method_6_code 52 = .ok (.anewarray 7, 3) := by decide +kernel
theorem d22_55 : decode jdk_38_method_6_code 55 = .ok (.dup_x1, 1) := by decide +kernel
theorem d22_56 : decode jdk_38_method_6_code 56 = .ok (.putfield 9, 3) := by decide +kernel
theorem d22_59 : decode jdk_38_method_6_code 59 = .ok (.areturn, 1) := by decide +kernel
theorem d21_0 : decode jdk_38_method_7_code 0 = .ok (.aload_n 0, 1) := by decide +kernel
theorem d21_1 : decode jdk_38_method_7_code 1 = .ok (.aload_n 0, 1) := by decide +kernel
theorem d21_2 : decode jdk_38_method_7_code 2 = .ok (.getfield 48, 3) := by decide +kernel
theorem d21_5 : decode jdk_38_method_7_code 5 = .ok (.iconst 1, 1) := by decide +kernel
theorem d21_6 : decode jdk_38_method_7_code 6 = .ok (.iadd, 1) := by decide +kernel
theorem d21_7 : decode jdk_38_method_7_code 7 = .ok (.invokevirtual 69, 3) := by decide +kernel
theorem d21_10 : decode jdk_38_method_7_code 10 = .ok (.areturn, 1) := by decide +kernel
theorem d9_0 : decode jdk_39_method_1_code 0 = .ok (.aload_n 0, 1) := by decide +kernel
theorem d9_1 : decode jdk_39_method_1_code 1 = .ok (.invokespecial 1, 3) := by decide +kernel
theorem d9_4 : decode jdk_39_method_1_code 4 = .ok (.aload_n 0, 1) := by decide +kernel
theorem d9_5 : decode jdk_39_method_1_code 5 = .ok (.iconst 0, 1) := by decide +kernel
theorem d9_6 : decode jdk_39_method_1_code 6 = .ok (.putfield 7, 3) := by decide +kernel
theorem d9_9 : decode jdk_39_method_1_code 9 = .ok (.return_, 1) := by decide +kernel
theorem d1_0 : decode jdk_40_method_36_code 0 = .ok (.getstatic 90, 3) := by decide +kernel
theorem d1_3 : decode jdk_40_method_36_code 3 = .ok (.areturn, 1) := by decide +kernel
theorem d5_0 : decode jdk_45_method_3_code 0 = .ok (.aload_n 0, 1) := by decide +kernel
theorem d5_1 : decode jdk_45_method_3_code 1 = .ok (.getfield 7, 3) := by decide +kernel
theorem d5_4 : decode jdk_45_method_3_code 4 = .ok (.arraylength, 1) := by decide +kernel
theorem d5_5 : decode jdk_45_method_3_code 5 = .ok (.ireturn, 1) := by decide +kernel
theorem d4_0 : decode jdk_46_method_10_code 0 = .ok (.new 61, 3) := by decide +kernel
theorem d4_3 : decode jdk_46_method_10_code 3 = .ok (.dup, 1) := by decide +kernel
theorem d4_4 : decode jdk_46_method_10_code 4 = .ok (.aload_n 0, 1) := by decide +kernel
theorem d4_5 : decode jdk_46_method_10_code 5 = .ok (.aload_n 0, 1) := by decide +kernel
theorem d4_6 : decode jdk_46_method_10_code 6 = .ok (.invokevirtual 13, 3) := by decide +kernel
theorem d4_9 : decode jdk_46_method_10_code 9 = .ok (.invokespecial 63, 3) := by decide +kernel
theorem d4_12 : decode jdk_46_method_10_code 12 = .ok (.areturn, 1) := by decide +kernel
theorem d16_0 : decode jdk_49_method_1_code 0 = .ok (.aload_n 0, 1) := by decide +kernel
theorem d16_1 : decode jdk_49_method_1_code 1 = .ok (.aload_n 1, 1) := by decide +kernel
theorem d16_2 : decode jdk_49_method_1_code 2 = .ok (.putfield 1, 3) := by decide +kernel
theorem d16_5 : decode jdk_49_method_1_code 5 = .ok (.aload_n 0, 1) := by decide +kernel
theorem d16_6 : decode jdk_49_method_1_code 6 = .ok (.invokespecial 7, 3) := by decide +kernel
theorem d16_9 : decode jdk_49_method_1_code 9 = .ok (.aload_n 0, 1) := by decide +kernel
theorem d16_10 : decode jdk_49_method_1_code 10 = .ok (.iconst (-1), 1) := by decide +kernel
theorem d16_11 : decode jdk_49_method_1_code 11 = .ok (.putfield 13, 3) := by decide +kernel
theorem d16_14 : decode jdk_49_method_1_code 14 = .ok (.aload_n 0, 1) := by decide +kernel
theorem d16_15 : decode jdk_49_method_1_code 15 = .ok (.aload_n 0, 1) := by decide +kernel
theorem d16_16 : decode jdk_49_method_1_code 16 = .ok (.getfield 1, 3) := by decide +kernel
theorem d16_19 : decode jdk_49_method_1_code 19 = .ok (.getfield 17, 3) := by decide +kernel
theorem d16_22 : decode jdk_49_method_1_code 22 = .ok (.putfield 22, 3) := by decide +kernel
theorem d16_25 : decode jdk_49_method_1_code 25 = .ok (.return_, 1) := by decide +kernel
theorem d17_0 : decode jdk_49_method_2_code 0 = .ok (.aload_n 0, 1) := by decide +kernel
theorem d17_1 : decode jdk_49_method_2_code 1 = .ok (.getfield 25, 3) := by decide +kernel
theorem d17_4 : decode jdk_49_method_2_code 4 = .ok (.aload_n 0, 1) := by decide +kernel
theorem d17_5 : decode jdk_49_method_2_code 5 = .ok (.getfield 1, 3) := by decide +kernel
theorem d17_8 : decode jdk_49_method_2_code 8 = .ok (.getfield 28, 3) := by decide +kernel
theorem d17_11 : decode jdk_49_method_2_code 11 = .ok (.if_icmp .eq 7, 3) := by decide +kernel
theorem d17_14 : decode jdk_49_method_2_code 14 = .ok (.iconst 1, 1) := by decide +kernel
theorem d17_15 : decode jdk_49_method_2_code 15 = .ok (.goto 4, 3) := by decide +kernel
theorem d17_18 : decode jdk_49_method_2_code 18 = .ok (.iconst 0, 1) := by decide +kernel
theorem d17_19 : decode jdk_49_method_2_code 19 = .ok (.ireturn, 1) := by decide +kernel
theorem d24_0 : decode jdk_49_method_3_code 0 = .ok (.aload_n 0, 1) := by decide +kernel
theorem d24_1 : decode jdk_49_method_3_code 1 = .ok (.invokevirtual 31, 3) := by decide +kernel
theorem d24_4 : decode jdk_49_method_3_code 4 = .ok (.aload_n 0, 1) := by decide +kernel
theorem d24_5 : decode jdk_49_method_3_code 5 = .ok (.getfield 25, 3) := by decide +kernel
theorem d24_8 : decode jdk_49_method_3_code 8 = .ok (.istore_n 1, 1) := by decide +kernel
theorem d24_9 : decode jdk_49_method_3_code 9 = .ok (.iload_n 1, 1) := by decide +kernel
theorem d24_10 : decode jdk_49_method_3_code 10 = .ok (.aload_n 0, 1) := by decide +kernel
theorem d24_11 : decode jdk_49_method_3_code 11 = .ok (.getfield 1, 3) := by decide +kernel
theorem d24_14 : decode jdk_49_method_3_code 14 = .ok (.getfield 28, 3) := by decide +kernel
theorem d24_17 : decode jdk_49_method_3_code 17 = .ok (.if_icmp .lt 11, 3) := by decide +kernel
theorem d24_28 : decode jdk_49_method_3_code 28 = .ok (.aload_n 0, 1) := by decide +kernel
theorem d24_29 : decode jdk_49_method_3_code 29 = .ok (.getfield 1, 3) := by decide +kernel
theorem d24_32 : decode jdk_49_method_3_code 32 = .ok (.getfield 37, 3) := by decide +kernel
theorem d24_35 : decode jdk_49_method_3_code 35 = .ok (.astore_n 2, 1) := by decide +kernel
theorem d24_36 : decode jdk_49_method_3_code 36 = .ok (.iload_n 1, 1) := by decide +kernel
theorem d24_37 : decode jdk_49_method_3_code 37 = .ok (.aload_n 2, 1) := by decide +kernel
theorem d24_38 : decode jdk_49_method_3_code 38 = .ok (.arraylength, 1) := by decide +kernel
theorem d24_39 : decode jdk_49_method_3_code 39 = .ok (.if_icmp .lt 11, 3) := by decide +kernel
theorem d24_50 : decode jdk_49_method_3_code 50 = .ok (.aload_n 0, 1) := by decide +kernel
theorem d24_51 : decode jdk_49_method_3_code 51 = .ok (.iload_n 1, 1) := by decide +kernel
theorem d24_52 : decode jdk_49_method_3_code 52 = .ok (.iconst 1, 1) := by decide +kernel
theorem d24_53 : decode jdk_49_method_3_code 53 = .ok (.iadd, 1) := by decide +kernel
theorem d24_54 : decode jdk_49_method_3_code 54 = .ok (.putfield 25, 3) := by decide +kernel
theorem d24_57 : decode jdk_49_method_3_code 57 = .ok (.aload_n 2, 1) := by decide +kernel
theorem d24_58 : decode jdk_49_method_3_code 58 = .ok (.aload_n 0, 1) := by decide +kernel
theorem d24_59 : decode jdk_49_method_3_code 59 = .ok (.iload_n 1, 1) := by decide +kernel
theorem d24_60 : decode jdk_49_method_3_code 60 = .ok (.dup_x1, 1) := by decide +kernel
theorem d24_61 : decode jdk_49_method_3_code 61 = .ok (.putfield 13, 3) := by decide +kernel
theorem d24_64 : decode jdk_49_method_3_code 64 = .ok (.aaload, 1) := by decide +kernel
theorem d24_65 : decode jdk_49_method_3_code 65 = .ok (.areturn, 1) := by decide +kernel
theorem d25_0 : decode jdk_49_method_6_code 0 = .ok (.aload_n 0, 1) := by decide +kernel
theorem d25_1 : decode jdk_49_method_6_code 1 = .ok (.getfield 1, 3) := by decide +kernel
theorem d25_4 : decode jdk_49_method_6_code 4 = .ok (.getfield 17, 3) := by decide +kernel
theorem d25_7 : decode jdk_49_method_6_code 7 = .ok (.aload_n 0, 1) := by decide +kernel
theorem d25_8 : decode jdk_49_method_6_code 8 = .ok (.getfield 22, 3) := by decide +kernel
theorem d25_11 : decode jdk_49_method_6_code 11 = .ok (.if_icmp .eq 11, 3) := by decide +kernel
theorem d25_22 : decode jdk_49_method_6_code 22 = .ok (.return_, 1) := by decide +kernel
theorem d6_0 : decode jdk_53_method_1_code 0 = .ok (.aload_n 0, 1) := by decide +kernel
theorem d6_1 : decode jdk_53_method_1_code 1 = .ok (.invokespecial 1, 3) := by decide +kernel
theorem d6_4 : decode jdk_53_method_1_code 4 = .ok (.aload_n 0, 1) := by decide +kernel
theorem d6_5 : decode jdk_53_method_1_code 5 = .ok (.aload_n 1, 1) := by decide +kernel
theorem d6_6 : decode jdk_53_method_1_code 6 = .ok (.putfield 7, 3) := by decide +kernel
theorem d6_9 : decode jdk_53_method_1_code 9 = .ok (.aload_n 0, 1) := by decide +kernel
theorem d6_10 : decode jdk_53_method_1_code 10 = .ok (.iload_n 2, 1) := by decide +kernel
theorem d6_11 : decode jdk_53_method_1_code 11 = .ok (.putfield 13, 3) := by decide +kernel
theorem d6_14 : decode jdk_53_method_1_code 14 = .ok (.aload_n 0, 1) := by decide +kernel
theorem d6_15 : decode jdk_53_method_1_code 15 = .ok (.iconst 0, 1) := by decide +kernel
theorem d6_16 : decode jdk_53_method_1_code 16 = .ok (.putfield 17, 3) := by decide +kernel
theorem d6_19 : decode jdk_53_method_1_code 19 = .ok (.aload_n 0, 1) := by decide +kernel
theorem d6_20 : decode jdk_53_method_1_code 20 = .ok (.iconst 0, 1) := by decide +kernel
theorem d6_21 : decode jdk_53_method_1_code 21 = .ok (.putfield 20, 3) := by decide +kernel
theorem d6_24 : decode jdk_53_method_1_code 24 = .ok (.return_, 1) := by decide +kernel
theorem d7_0 : decode jdk_53_method_3_code 0 = .ok (.aload_n 0, 1) := by decide +kernel
theorem d7_1 : decode jdk_53_method_3_code 1 = .ok (.getfield 17, 3) := by decide +kernel
theorem d7_4 : decode jdk_53_method_3_code 4 = .ok (.aload_n 0, 1) := by decide +kernel
theorem d7_5 : decode jdk_53_method_3_code 5 = .ok (.getfield 13, 3) := by decide +kernel
theorem d7_8 : decode jdk_53_method_3_code 8 = .ok (.if_icmp .eq 7, 3) := by decide +kernel
theorem d7_15 : decode jdk_53_method_3_code 15 = .ok (.iconst 0, 1) := by decide +kernel
theorem d7_16 : decode jdk_53_method_3_code 16 = .ok (.ireturn, 1) := by decide +kernel
theorem d13_0 : decode method_2_code 0 = .ok (.aload_n 0, 1) := by decide +kernel
theorem d13_1 : decode method_2_code 1 = .ok (.iload 6, 2) := by decide +kernel
theorem d13_3 : decode method_2_code 3 = .ok (.aaload, 1) := by decide +kernel
theorem d13_4 : decode method_2_code 4 = .ok (.astore 7, 2) := by decide +kernel
theorem d13_6 : decode method_2_code 6 = .ok (.iload_n 1, 1) := by decide +kernel
theorem d13_7 : decode method_2_code 7 = .ok (.iconst 1, 1) := by decide +kernel
theorem d13_8 : decode method_2_code 8 = .ok (.if_icmp .lt 14, 3) := by decide +kernel
theorem d13_11 : decode method_2_code 11 = .ok (.iload_n 2, 1) := by decide +kernel
theorem d13_12 : decode method_2_code 12 = .ok (.iload 6, 2) := by decide +kernel
theorem d13_14 : decode method_2_code 14 = .ok (.if_icmp .ne 8, 3) := by decide +kernel
theorem d13_17 : decode method_2_code 17 = .ok (.aload_n 0, 1) := by decide +kernel
theorem d13_18 : decode method_2_code 18 = .ok (.iload_n 3, 1) := by decide +kernel
theorem d13_19 : decode method_2_code 19 = .ok (.aaload, 1) := by decide +kernel
theorem d13_20 : decode method_2_code 20 = .ok (.astore 7, 2) := by decide +kernel
theorem d13_22 : decode method_2_code 22 = .ok (.iload_n 1, 1) := by decide +kernel
theorem d13_23 : decode method_2_code 23 = .ok (.iconst 2, 1) := by decide +kernel
theorem d13_24 : decode method_2_code 24 = .ok (.if_icmp .lt 16, 3) := by decide +kernel
theorem d13_27 : decode method_2_code 27 = .ok (.iload 4, 2) := by decide +kernel
theorem d13_29 : decode method_2_code 29 = .ok (.iload 6, 2) := by decide +kernel
theorem d13_31 : decode method_2_code 31 = .ok (.if_icmp .ne 9, 3) := by decide +kernel
theorem d13_34 : decode method_2_code 34 = .ok (.aload_n 0, 1) := by decide +kernel
theorem d13_35 : decode method_2_code 35 = .ok (.iload 5, 2) := by decide +kernel
theorem d13_37 : decode method_2_code 37 = .ok (.aaload, 1) := by decide +kernel
theorem d13_38 : decode method_2_code 38 = .ok (.astore 7, 2) := by decide +kernel
theorem d13_40 : decode method_2_code 40 = .ok (.aload 7, 2) := by decide +kernel
theorem d13_42 : decode method_2_code 42 = .ok (.areturn, 1) := by decide +kernel
theorem d14_0 : decode prog_108_method_1_code 0 = .ok (.aload_n 0, 1) := by decide +kernel
theorem d14_1 : decode prog_108_method_1_code 1 = .ok (.invokespecial 1, 3) := by decide +kernel
theorem d14_4 : decode prog_108_method_1_code 4 = .ok (.aload_n 0, 1) := by decide +kernel
theorem d14_5 : decode prog_108_method_1_code 5 = .ok (.iload_n 1, 1) := by decide +kernel
theorem d14_6 : decode prog_108_method_1_code 6 = .ok (.anewarray 7, 3) := by decide +kernel
theorem d14_9 : decode prog_108_method_1_code 9 = .ok (.putfield 9, 3) := by decide +kernel
theorem d14_12 : decode prog_108_method_1_code 12 = .ok (.aload_n 2, 1) := by decide +kernel
theorem d14_13 : decode prog_108_method_1_code 13 = .ok (.invokeinterface 15 1, 5) := by decide +kernel
theorem d14_18 : decode prog_108_method_1_code 18 = .ok (.astore_n 3, 1) := by decide +kernel
theorem d14_19 : decode prog_108_method_1_code 19 = .ok (.aload_n 3, 1) := by decide +kernel
theorem d14_20 : decode prog_108_method_1_code 20 = .ok (.invokeinterface 21 1, 5) := by decide +kernel
theorem d14_25 : decode prog_108_method_1_code 25 = .ok (.ifCond .eq 35, 3) := by decide +kernel
theorem d14_28 : decode prog_108_method_1_code 28 = .ok (.aload_n 3, 1) := by decide +kernel
theorem d14_29 : decode prog_108_method_1_code 29 = .ok (.invokeinterface 27 1, 5) := by decide +kernel
theorem d14_34 : decode prog_108_method_1_code 34 = .ok (.checkcast 31, 3) := by decide +kernel
theorem d14_37 : decode prog_108_method_1_code 37 = .ok (.astore 4, 2) := by decide +kernel
theorem d14_39 : decode prog_108_method_1_code 39 = .ok (.aload_n 0, 1) := by decide +kernel
theorem d14_40 : decode prog_108_method_1_code 40 = .ok (.getfield 9, 3) := by decide +kernel
theorem d14_43 : decode prog_108_method_1_code 43 = .ok (.aload 4, 2) := by decide +kernel
theorem d14_45 : decode prog_108_method_1_code 45 = .ok (.invokevirtual 33, 3) := by decide +kernel
theorem d14_48 : decode prog_108_method_1_code 48 = .ok (.invokevirtual 37, 3) := by decide +kernel
theorem d14_51 : decode prog_108_method_1_code 51 = .ok (.aload 4, 2) := by decide +kernel
theorem d14_53 : decode prog_108_method_1_code 53 = .ok (.invokevirtual 43, 3) := by decide +kernel
theorem d14_56 : decode prog_108_method_1_code 56 = .ok (.aastore, 1) := by decide +kernel
theorem d14_57 : decode prog_108_method_1_code 57 = .ok (.goto (-38), 3) := by decide +kernel
theorem d14_60 : decode prog_108_method_1_code 60 = .ok (.return_, 1) := by decide +kernel
theorem d12_0 : decode prog_108_method_3_code 0 = .ok (.aload_n 0, 1) := by decide +kernel
theorem d12_1 : decode prog_108_method_3_code 1 = .ok (.getfield 9, 3) := by decide +kernel
theorem d12_4 : decode prog_108_method_3_code 4 = .ok (.aload_n 1, 1) := by decide +kernel
theorem d12_5 : decode prog_108_method_3_code 5 = .ok (.invokevirtual 37, 3) := by decide +kernel
theorem d12_8 : decode prog_108_method_3_code 8 = .ok (.aaload, 1) := by decide +kernel
theorem d12_9 : decode prog_108_method_3_code 9 = .ok (.astore_n 2, 1) := by decide +kernel
theorem d12_10 : decode prog_108_method_3_code 10 = .ok (.aload_n 2, 1) := by decide +kernel
theorem d12_11 : decode prog_108_method_3_code 11 = .ok (.ifnonnull 7, 3) := by decide +kernel
theorem d12_14 : decode prog_108_method_3_code 14 = .ok (.aload_n 1, 1) := by decide +kernel
theorem d12_15 : decode prog_108_method_3_code 15 = .ok (.goto 4, 3) := by decide +kernel
theorem d12_18 : decode prog_108_method_3_code 18 = .ok (.aload_n 2, 1) := by decide +kernel
theorem d12_19 : decode prog_108_method_3_code 19 = .ok (.areturn, 1) := by decide +kernel
theorem d2_0 : decode prog_110_method_1_code 0 = .ok (.aload_n 0, 1) := by decide +kernel
theorem d2_1 : decode prog_110_method_1_code 1 = .ok (.aload_n 1, 1) := by decide +kernel
theorem d2_2 : decode prog_110_method_1_code 2 = .ok (.invokespecial 1, 3) := by decide +kernel
theorem d2_5 : decode prog_110_method_1_code 5 = .ok (.return_, 1) := by decide +kernel
theorem d0_0 : decode prog_117_method_1_code 0 = .ok (.aload_n 0, 1) := by decide +kernel
theorem d0_1 : decode prog_117_method_1_code 1 = .ok (.invokestatic 1, 3) := by decide +kernel
theorem d0_4 : decode prog_117_method_1_code 4 = .ok (.invokespecial 7, 3) := by decide +kernel
theorem d0_7 : decode prog_117_method_1_code 7 = .ok (.aload_n 0, 1) := by decide +kernel
theorem d0_8 : decode prog_117_method_1_code 8 = .ok (.aload_n 1, 1) := by decide +kernel
theorem d0_9 : decode prog_117_method_1_code 9 = .ok (.putfield 13, 3) := by decide +kernel
theorem d0_12 : decode prog_117_method_1_code 12 = .ok (.aload_n 0, 1) := by decide +kernel
theorem d0_13 : decode prog_117_method_1_code 13 = .ok (.iload_n 2, 1) := by decide +kernel
theorem d0_14 : decode prog_117_method_1_code 14 = .ok (.putfield 19, 3) := by decide +kernel
theorem d0_17 : decode prog_117_method_1_code 17 = .ok (.aload_n 0, 1) := by decide +kernel
theorem d0_18 : decode prog_117_method_1_code 18 = .ok (.iload_n 3, 1) := by decide +kernel
theorem d0_19 : decode prog_117_method_1_code 19 = .ok (.putfield 23, 3) := by decide +kernel
theorem d0_22 : decode prog_117_method_1_code 22 = .ok (.return_, 1) := by decide +kernel
theorem d11_0 : decode prog_117_method_5_code 0 = .ok (.aload_n 0, 1) := by decide +kernel
theorem d11_1 : decode prog_117_method_5_code 1 = .ok (.getfield 23, 3) := by decide +kernel
theorem d11_4 : decode prog_117_method_5_code 4 = .ok (.ireturn, 1) := by decide +kernel
theorem d18_0 : decode prog_67_method_1_code 0 = .ok (.aload_n 0, 1) := by decide +kernel
theorem d18_1 : decode prog_67_method_1_code 1 = .ok (.invokespecial 1, 3) := by decide +kernel
theorem d18_4 : decode prog_67_method_1_code 4 = .ok (.aload_n 0, 1) := by decide +kernel
theorem d18_5 : decode prog_67_method_1_code 5 = .ok (.aload_n 1, 1) := by decide +kernel
theorem d18_6 : decode prog_67_method_1_code 6 = .ok (.putfield 7, 3) := by decide +kernel
theorem d18_9 : decode prog_67_method_1_code 9 = .ok (.aload_n 0, 1) := by decide +kernel
theorem d18_10 : decode prog_67_method_1_code 10 = .ok (.aload_n 2, 1) := by decide +kernel
theorem d18_11 : decode prog_67_method_1_code 11 = .ok (.putfield 13, 3) := by decide +kernel
theorem d18_14 : decode prog_67_method_1_code 14 = .ok (.return_, 1) := by decide +kernel
theorem d26_0 : decode prog_67_method_2_code 0 = .ok (.aload_n 0, 1) := by decide +kernel
theorem d26_1 : decode prog_67_method_2_code 1 = .ok (.getfield 7, 3) := by decide +kernel
theorem d26_4 : decode prog_67_method_2_code 4 = .ok (.areturn, 1) := by decide +kernel
theorem d27_0 : decode prog_67_method_3_code 0 = .ok (.aload_n 0, 1) := by decide +kernel
theorem d27_1 : decode prog_67_method_3_code 1 = .ok (.getfield 13, 3) := by decide +kernel
theorem d27_4 : decode prog_67_method_3_code 4 = .ok (.areturn, 1) := by decide +kernel
theorem d3_0 : decode prog_83_method_1_code 0 = .ok (.aload_n 0, 1) := by decide +kernel
theorem d3_1 : decode prog_83_method_1_code 1 = .ok (.invokespecial 1, 3) := by decide +kernel
theorem d3_4 : decode prog_83_method_1_code 4 = .ok (.iconst 0, 1) := by decide +kernel
theorem d3_5 : decode prog_83_method_1_code 5 = .ok (.istore_n 2, 1) := by decide +kernel
theorem d3_6 : decode prog_83_method_1_code 6 = .ok (.aload_n 1, 1) := by decide +kernel
theorem d3_7 : decode prog_83_method_1_code 7 = .ok (.invokeinterface 7 1, 5) := by decide +kernel
theorem d3_12 : decode prog_83_method_1_code 12 = .ok (.astore_n 3, 1) := by decide +kernel
theorem d3_13 : decode prog_83_method_1_code 13 = .ok (.aload_n 3, 1) := by decide +kernel
theorem d3_14 : decode prog_83_method_1_code 14 = .ok (.invokeinterface 13 1, 5) := by decide +kernel
theorem d3_19 : decode prog_83_method_1_code 19 = .ok (.ifCond .eq 27, 3) := by decide +kernel
theorem d3_46 : decode prog_83_method_1_code 46 = .ok (.aload_n 0, 1) := by decide +kernel
theorem d3_47 : decode prog_83_method_1_code 47 = .ok (.iload_n 2, 1) := by decide +kernel
theorem d3_48 : decode prog_83_method_1_code 48 = .ok (.iconst 1, 1) := by decide +kernel
theorem d3_49 : decode prog_83_method_1_code 49 = .ok (.iadd, 1) := by decide +kernel
theorem d3_50 : decode prog_83_method_1_code 50 = .ok (.putfield 25, 3) := by decide +kernel
theorem d3_53 : decode prog_83_method_1_code 53 = .ok (.return_, 1) := by decide +kernel
theorem tw0 {Z : State} {a0 : Array Value} (hw : ∀ d ∈ tables_1, d.before a0 Z = true) : (Jvm.Cond.constant "com/example/abstract_to_verify/abstracttoverify/model/SubstitutionVariablePinLaw" (7 : Nat) (2147483647 : Int32)).before a0 Z = true := hw _ (List.mem_of_getElem? (i := 0) rfl)
theorem tw1 {Z : State} {a0 : Array Value} (hw : ∀ d ∈ tables_1, d.before a0 Z = true) : (Jvm.Cond.classLink "com/example/abstract_to_verify/abstracttoverify/model/SubstitutionVariablePinLaw" (8 : Nat) "com/example/abstract_to_verify/abstracttoverify/model/Variable").before a0 Z = true := hw _ (List.mem_of_getElem? (i := 1) rfl)
theorem tw2 {Z : State} {a0 : Array Value} (hw : ∀ d ∈ tables_1, d.before a0 Z = true) : (Jvm.Cond.arrayOver (Jvm.ClassFile.FieldType.object "com/example/abstract_to_verify/abstracttoverify/model/Variable")).before a0 Z = true := hw _ (List.mem_of_getElem? (i := 2) rfl)
theorem tw3 {Z : State} {a0 : Array Value} (hw : ∀ d ∈ tables_1, d.before a0 Z = true) : (Jvm.Cond.instantiable "com/example/abstract_to_verify/abstracttoverify/model/Variable" (4 : Nat)).before a0 Z = true := hw _ (List.mem_of_getElem? (i := 3) rfl)
theorem tw4 {Z : State} {a0 : Array Value} (hw : ∀ d ∈ tables_1, d.before a0 Z = true) : (Jvm.Cond.initialized "com/example/abstract_to_verify/abstracttoverify/model/Variable").before a0 Z = true := hw _ (List.mem_of_getElem? (i := 4) rfl)
theorem tw5 {Z : State} {a0 : Array Value} (hw : ∀ d ∈ tables_1, d.before a0 Z = true) : (Jvm.Cond.stringLink "com/example/abstract_to_verify/abstracttoverify/model/SubstitutionVariablePinLaw" (10 : Nat) "x").before a0 Z = true := hw _ (List.mem_of_getElem? (i := 5) rfl)
theorem tw13 {Z : State} {a0 : Array Value} (hw : ∀ d ∈ tables_1, d.before a0 Z = true) : (Jvm.Cond.methodLink "com/example/abstract_to_verify/abstracttoverify/model/SubstitutionVariablePinLaw" (12 : Nat) ({ cls := "com/example/abstract_to_verify/abstracttoverify/model/Variable", name := "<init>", desc := "(Ljava/lang/String;ZI)V" } : Jvm.MethodName)).before a0 Z = true := hw _ (List.mem_of_getElem? (i := 13) rfl)
theorem tw14 {Z : State} {a0 : Array Value} (hw : ∀ d ∈ tables_1, d.before a0 Z = true) : (Jvm.Cond.instanceMethod ({ cls := "com/example/abstract_to_verify/abstracttoverify/model/Variable", name := "<init>", desc := "(Ljava/lang/String;ZI)V" } : Jvm.MethodName)).before a0 Z = true := hw _ (List.mem_of_getElem? (i := 14) rfl)
theorem tw15 {Z : State} {a0 : Array Value} (hw : ∀ d ∈ tables_1, d.before a0 Z = true) : (Jvm.Cond.code ({ cls := "com/example/abstract_to_verify/abstracttoverify/model/Variable", name := "<init>", desc := "(Ljava/lang/String;ZI)V" } : Jvm.MethodName) prog_117_method_1_code (4 : Nat) (Option.none : Option Jvm.ClassFile.FieldType)).before a0 Z = true := hw _ (List.mem_of_getElem? (i := 15) rfl)
theorem tw16 {Z : State} {a0 : Array Value} (hw : ∀ d ∈ tables_1, d.before a0 Z = true) : (Jvm.Cond.methodLink "com/example/abstract_to_verify/abstracttoverify/model/Variable" (1 : Nat) ({ cls := "java/util/List", name := "of", desc := "()Ljava/util/List;" } : Jvm.MethodName)).before a0 Z = true := hw _ (List.mem_of_getElem? (i := 16) rfl)
theorem tw17 {Z : State} {a0 : Array Value} (hw : ∀ d ∈ tables_1, d.before a0 Z = true) : (Jvm.Cond.static ({ cls := "java/util/List", name := "of", desc := "()Ljava/util/List;" } : Jvm.MethodName)).before a0 Z = true := hw _ (List.mem_of_getElem? (i := 17) rfl)
theorem tw18 {Z : State} {a0 : Array Value} (hw : ∀ d ∈ tables_1, d.before a0 Z = true) : (Jvm.Cond.initialized "java/util/List").before a0 Z = true := hw _ (List.mem_of_getElem? (i := 18) rfl)
theorem tw19 {Z : State} {a0 : Array Value} (hw : ∀ d ∈ tables_1, d.before a0 Z = true) : (Jvm.Cond.code ({ cls := "java/util/List", name := "of", desc := "()Ljava/util/List;" } : Jvm.MethodName) jdk_40_method_36_code (0 : Nat) (Option.some (Jvm.ClassFile.FieldType.object "java/util/List"))).before a0 Z = true := hw _ (List.mem_of_getElem? (i := 19) rfl)
theorem tw20 {Z : State} {a0 : Array Value} (hw : ∀ d ∈ tables_1, d.before a0 Z = true) : (Jvm.Cond.fieldLink "java/util/List" (90 : Nat) "java/util/ImmutableCollections" "EMPTY_LIST" "Ljava/util/ImmutableCollections$ListN;").before a0 Z = true := hw _ (List.mem_of_getElem? (i := 20) rfl)
theorem tw22 {Z : State} {a0 : Array Value} (hw : ∀ d ∈ tables_1, d.before a0 Z = true) : (Jvm.Cond.methodLink "com/example/abstract_to_verify/abstracttoverify/model/Variable" (7 : Nat) ({ cls := "com/example/abstract_to_verify/abstracttoverify/model/Term", name := "<init>", desc := "(Ljava/util/List;)V" } : Jvm.MethodName)).before a0 Z = true := hw _ (List.mem_of_getElem? (i := 22) rfl)
theorem tw23 {Z : State} {a0 : Array Value} (hw : ∀ d ∈ tables_1, d.before a0 Z = true) : (Jvm.Cond.instanceMethod ({ cls := "com/example/abstract_to_verify/abstracttoverify/model/Term", name := "<init>", desc := "(Ljava/util/List;)V" } : Jvm.MethodName)).before a0 Z = true := hw _ (List.mem_of_getElem? (i := 23) rfl)
theorem tw25 {Z : State} {a0 : Array Value} (hw : ∀ d ∈ tables_1, d.before a0 Z = true) : (Jvm.Cond.initialized "com/example/abstract_to_verify/abstracttoverify/model/Term").before a0 Z = true := hw _ (List.mem_of_getElem? (i := 25) rfl)
theorem tw26 {Z : State} {a0 : Array Value} (hw : ∀ d ∈ tables_1, d.before a0 Z = true) : (Jvm.Cond.code ({ cls := "com/example/abstract_to_verify/abstracttoverify/model/Term", name := "<init>", desc := "(Ljava/util/List;)V" } : Jvm.MethodName) prog_110_method_1_code (2 : Nat) (Option.none : Option Jvm.ClassFile.FieldType)).before a0 Z = true := hw _ (List.mem_of_getElem? (i := 26) rfl)
theorem tw27 {Z : State} {a0 : Array Value} (hw : ∀ d ∈ tables_1, d.before a0 Z = true) : (Jvm.Cond.methodLink "com/example/abstract_to_verify/abstracttoverify/model/Term" (1 : Nat) ({ cls := "com/example/abstract_to_verify/abstracttoverify/model/Expression", name := "<init>", desc := "(Ljava/util/List;)V" } : Jvm.MethodName)).before a0 Z = true := hw _ (List.mem_of_getElem? (i := 27) rfl)
theorem tw28 {Z : State} {a0 : Array Value} (hw : ∀ d ∈ tables_1, d.before a0 Z = true) : (Jvm.Cond.instanceMethod ({ cls := "com/example/abstract_to_verify/abstracttoverify/model/Expression", name := "<init>", desc := "(Ljava/util/List;)V" } : Jvm.MethodName)).before a0 Z = true := hw _ (List.mem_of_getElem? (i := 28) rfl)
theorem tw30 {Z : State} {a0 : Array Value} (hw : ∀ d ∈ tables_1, d.before a0 Z = true) : (Jvm.Cond.initialized "com/example/abstract_to_verify/abstracttoverify/model/Expression").before a0 Z = true := hw _ (List.mem_of_getElem? (i := 30) rfl)
theorem tw31 {Z : State} {a0 : Array Value} (hw : ∀ d ∈ tables_1, d.before a0 Z = true) : (Jvm.Cond.code ({ cls := "com/example/abstract_to_verify/abstracttoverify/model/Expression", name := "<init>", desc := "(Ljava/util/List;)V" } : Jvm.MethodName) prog_83_method_1_code (5 : Nat) (Option.none : Option Jvm.ClassFile.FieldType)).before a0 Z = true := hw _ (List.mem_of_getElem? (i := 31) rfl)
theorem tw32 {Z : State} {a0 : Array Value} (hw : ∀ d ∈ tables_1, d.before a0 Z = true) : (Jvm.Cond.methodLink "com/example/abstract_to_verify/abstracttoverify/model/Expression" (1 : Nat) ({ cls := "java/lang/Object", name := "<init>", desc := "()V" } : Jvm.MethodName)).before a0 Z = true := hw _ (List.mem_of_getElem? (i := 32) rfl)
theorem tw33 {Z : State} {a0 : Array Value} (hw : ∀ d ∈ tables_1, d.before a0 Z = true) : (Jvm.Cond.instanceMethod ({ cls := "java/lang/Object", name := "<init>", desc := "()V" } : Jvm.MethodName)).before a0 Z = true := hw _ (List.mem_of_getElem? (i := 33) rfl)
theorem tw34 {Z : State} {a0 : Array Value} (hw : ∀ d ∈ tables_1, d.before a0 Z = true) : (Jvm.Cond.code ({ cls := "java/lang/Object", name := "<init>", desc := "()V" } : Jvm.MethodName) object_method_1_code (1 : Nat) (Option.none : Option Jvm.ClassFile.FieldType)).before a0 Z = true := hw _ (List.mem_of_getElem? (i := 34) rfl)
theorem tw35 {Z : State} {a0 : Array Value} (hw : ∀ d ∈ tables_1, d.before a0 Z = true) : (Jvm.Cond.methodLink "com/example/abstract_to_verify/abstracttoverify/model/Expression" (7 : Nat) ({ cls := "java/util/List", name := "iterator", desc := "()Ljava/util/Iterator;" } : Jvm.MethodName)).before a0 Z = true := hw _ (List.mem_of_getElem? (i := 35) rfl)
theorem tw36 {Z : State} {a0 : Array Value} (hw : ∀ d ∈ tables_1, d.before a0 Z = true) : (Jvm.Cond.declares ({ cls := "java/util/List", name := "iterator", desc := "()Ljava/util/Iterator;" } : Jvm.MethodName)).before a0 Z = true := hw _ (List.mem_of_getElem? (i := 36) rfl)
theorem tw37 {Z : State} {a0 : Array Value} (hw : ∀ d ∈ tables_1, d.before a0 Z = true) : (Jvm.Cond.interfaceMethod "java/util/List" "java/util/List" "iterator" "()Ljava/util/Iterator;").before a0 Z = true := hw _ (List.mem_of_getElem? (i := 37) rfl)
theorem tw38 {Z : State} {a0 : Array Value} (hw : ∀ d ∈ tables_1, d.before a0 Z = true) : (Jvm.Cond.selects "java/util/ImmutableCollections$ListN" ({ cls := "java/util/List", name := "iterator", desc := "()Ljava/util/Iterator;" } : Jvm.MethodName) ({ cls := "java/util/ImmutableCollections$AbstractImmutableList", name := "iterator", desc := "()Ljava/util/Iterator;" } : Jvm.MethodName)).before a0 Z = true := hw _ (List.mem_of_getElem? (i := 38) rfl)
theorem tw39 {Z : State} {a0 : Array Value} (hw : ∀ d ∈ tables_1, d.before a0 Z = true) : (Jvm.Cond.instanceMethod ({ cls := "java/util/ImmutableCollections$AbstractImmutableList", name := "iterator", desc := "()Ljava/util/Iterator;" } : Jvm.MethodName)).before a0 Z = true := hw _ (List.mem_of_getElem? (i := 39) rfl)
theorem tw40 {Z : State} {a0 : Array Value} (hw : ∀ d ∈ tables_1, d.before a0 Z = true) : (Jvm.Cond.publicMethod ({ cls := "java/util/ImmutableCollections$AbstractImmutableList", name := "iterator", desc := "()Ljava/util/Iterator;" } : Jvm.MethodName)).before a0 Z = true := hw _ (List.mem_of_getElem? (i := 40) rfl)
theorem tw41 {Z : State} {a0 : Array Value} (hw : ∀ d ∈ tables_1, d.before a0 Z = true) : (Jvm.Cond.unhidden "java/util/ImmutableCollections$ListN" "iterator" "()Ljava/util/Iterator;").before a0 Z = true := hw _ (List.mem_of_getElem? (i := 41) rfl)
theorem tw42 {Z : State} {a0 : Array Value} (hw : ∀ d ∈ tables_1, d.before a0 Z = true) : (Jvm.Cond.castable "java/util/ImmutableCollections$ListN" "java/util/List").before a0 Z = true := hw _ (List.mem_of_getElem? (i := 42) rfl)
theorem tw43 {Z : State} {a0 : Array Value} (hw : ∀ d ∈ tables_1, d.before a0 Z = true) : (Jvm.Cond.initialized "java/util/ImmutableCollections$AbstractImmutableList").before a0 Z = true := hw _ (List.mem_of_getElem? (i := 43) rfl)
theorem tw44 {Z : State} {a0 : Array Value} (hw : ∀ d ∈ tables_1, d.before a0 Z = true) : (Jvm.Cond.code ({ cls := "java/util/ImmutableCollections$AbstractImmutableList", name := "iterator", desc := "()Ljava/util/Iterator;" } : Jvm.MethodName) jdk_46_method_10_code (1 : Nat) (Option.some (Jvm.ClassFile.FieldType.object "java/util/Iterator"))).before a0 Z = true := hw _ (List.mem_of_getElem? (i := 44) rfl)
theorem tw45 {Z : State} {a0 : Array Value} (hw : ∀ d ∈ tables_1, d.before a0 Z = true) : (Jvm.Cond.classLink "java/util/ImmutableCollections$AbstractImmutableList" (61 : Nat) "java/util/ImmutableCollections$ListItr").before a0 Z = true := hw _ (List.mem_of_getElem? (i := 45) rfl)
theorem tw46 {Z : State} {a0 : Array Value} (hw : ∀ d ∈ tables_1, d.before a0 Z = true) : (Jvm.Cond.instantiable "java/util/ImmutableCollections$ListItr" (4 : Nat)).before a0 Z = true := hw _ (List.mem_of_getElem? (i := 46) rfl)
theorem tw47 {Z : State} {a0 : Array Value} (hw : ∀ d ∈ tables_1, d.before a0 Z = true) : (Jvm.Cond.initialized "java/util/ImmutableCollections$ListItr").before a0 Z = true := hw _ (List.mem_of_getElem? (i := 47) rfl)
theorem tw48 {Z : State} {a0 : Array Value} (hw : ∀ d ∈ tables_1, d.before a0 Z = true) : (Jvm.Cond.methodLink "java/util/ImmutableCollections$AbstractImmutableList" (13 : Nat) ({ cls := "java/util/ImmutableCollections$AbstractImmutableList", name := "size", desc := "()I" } : Jvm.MethodName)).before a0 Z = true := hw _ (List.mem_of_getElem? (i := 48) rfl)
theorem tw49 {Z : State} {a0 : Array Value} (hw : ∀ d ∈ tables_1, d.before a0 Z = true) : (Jvm.Cond.sameMethod "java/util/ImmutableCollections$AbstractImmutableList" "java/util/AbstractCollection" "size" "()I").before a0 Z = true := hw _ (List.mem_of_getElem? (i := 49) rfl)
theorem tw50 {Z : State} {a0 : Array Value} (hw : ∀ d ∈ tables_1, d.before a0 Z = true) : (Jvm.Cond.declares ({ cls := "java/util/AbstractCollection", name := "size", desc := "()I" } : Jvm.MethodName)).before a0 Z = true := hw _ (List.mem_of_getElem? (i := 50) rfl)
theorem tw51 {Z : State} {a0 : Array Value} (hw : ∀ d ∈ tables_1, d.before a0 Z = true) : (Jvm.Cond.selects "java/util/ImmutableCollections$ListN" ({ cls := "java/util/ImmutableCollections$AbstractImmutableList", name := "size", desc := "()I" } : Jvm.MethodName) ({ cls := "java/util/ImmutableCollections$ListN", name := "size", desc := "()I" } : Jvm.MethodName)).before a0 Z = true := hw _ (List.mem_of_getElem? (i := 51) rfl)
theorem tw52 {Z : State} {a0 : Array Value} (hw : ∀ d ∈ tables_1, d.before a0 Z = true) : (Jvm.Cond.instanceMethod ({ cls := "java/util/ImmutableCollections$ListN", name := "size", desc := "()I" } : Jvm.MethodName)).before a0 Z = true := hw _ (List.mem_of_getElem? (i := 52) rfl)
theorem tw53 {Z : State} {a0 : Array Value} (hw : ∀ d ∈ tables_1, d.before a0 Z = true) : (Jvm.Cond.initialized "java/util/ImmutableCollections$ListN").before a0 Z = true := hw _ (List.mem_of_getElem? (i := 53) rfl)
theorem tw54 {Z : State} {a0 : Array Value} (hw : ∀ d ∈ tables_1, d.before a0 Z = true) : (Jvm.Cond.code ({ cls := "java/util/ImmutableCollections$ListN", name := "size", desc := "()I" } : Jvm.MethodName) jdk_45_method_3_code (1 : Nat) (Option.some Jvm.ClassFile.FieldType.int)).before a0 Z = true := hw _ (List.mem_of_getElem? (i := 54) rfl)
theorem tw55 {Z : State} {a0 : Array Value} (hw : ∀ d ∈ tables_1, d.before a0 Z = true) : (Jvm.Cond.fieldLink "java/util/ImmutableCollections$ListN" (7 : Nat) "java/util/ImmutableCollections$ListN" "elements" "[Ljava/lang/Object;").before a0 Z = true := hw _ (List.mem_of_getElem? (i := 55) rfl)
theorem tw57 {Z : State} {a0 : Array Value} (hw : ∀ d ∈ tables_1, d.before a0 Z = true) : (Jvm.Cond.methodLink "java/util/ImmutableCollections$AbstractImmutableList" (63 : Nat) ({ cls := "java/util/ImmutableCollections$ListItr", name := "<init>", desc := "(Ljava/util/List;I)V" } : Jvm.MethodName)).before a0 Z = true := hw _ (List.mem_of_getElem? (i := 57) rfl)
theorem tw58 {Z : State} {a0 : Array Value} (hw : ∀ d ∈ tables_1, d.before a0 Z = true) : (Jvm.Cond.instanceMethod ({ cls := "java/util/ImmutableCollections$ListItr", name := "<init>", desc := "(Ljava/util/List;I)V" } : Jvm.MethodName)).before a0 Z = true := hw _ (List.mem_of_getElem? (i := 58) rfl)
theorem tw60 {Z : State} {a0 : Array Value} (hw : ∀ d ∈ tables_1, d.before a0 Z = true) : (Jvm.Cond.code ({ cls := "java/util/ImmutableCollections$ListItr", name := "<init>", desc := "(Ljava/util/List;I)V" } : Jvm.MethodName) jdk_53_method_1_code (3 : Nat) (Option.none : Option Jvm.ClassFile.FieldType)).before a0 Z = true := hw _ (List.mem_of_getElem? (i := 60) rfl)
theorem tw61 {Z : State} {a0 : Array Value} (hw : ∀ d ∈ tables_1, d.before a0 Z = true) : (Jvm.Cond.methodLink "java/util/ImmutableCollections$ListItr" (1 : Nat) ({ cls := "java/lang/Object", name := "<init>", desc := "()V" } : Jvm.MethodName)).before a0 Z = true := hw _ (List.mem_of_getElem? (i := 61) rfl)
theorem tw62 {Z : State} {a0 : Array Value} (hw : ∀ d ∈ tables_1, d.before a0 Z = true) : (Jvm.Cond.fieldLink "java/util/ImmutableCollections$ListItr" (7 : Nat) "java/util/ImmutableCollections$ListItr" "list" "Ljava/util/List;").before a0 Z = true := hw _ (List.mem_of_getElem? (i := 62) rfl)
theorem tw63 {Z : State} {a0 : Array Value} (hw : ∀ d ∈ tables_1, d.before a0 Z = true) : (Jvm.Cond.laysFinal "java/util/ImmutableCollections$ListItr" "java/util/ImmutableCollections$ListItr" "list" "Ljava/util/List;").before a0 Z = true := hw _ (List.mem_of_getElem? (i := 63) rfl)
theorem tw64 {Z : State} {a0 : Array Value} (hw : ∀ d ∈ tables_1, d.before a0 Z = true) : (Jvm.Cond.fieldLink "java/util/ImmutableCollections$ListItr" (13 : Nat) "java/util/ImmutableCollections$ListItr" "size" "I").before a0 Z = true := hw _ (List.mem_of_getElem? (i := 64) rfl)
theorem tw65 {Z : State} {a0 : Array Value} (hw : ∀ d ∈ tables_1, d.before a0 Z = true) : (Jvm.Cond.laysFinal "java/util/ImmutableCollections$ListItr" "java/util/ImmutableCollections$ListItr" "size" "I").before a0 Z = true := hw _ (List.mem_of_getElem? (i := 65) rfl)
theorem tw66 {Z : State} {a0 : Array Value} (hw : ∀ d ∈ tables_1, d.before a0 Z = true) : (Jvm.Cond.fieldLink "java/util/ImmutableCollections$ListItr" (17 : Nat) "java/util/ImmutableCollections$ListItr" "cursor" "I").before a0 Z = true := hw _ (List.mem_of_getElem? (i := 66) rfl)
theorem tw67 {Z : State} {a0 : Array Value} (hw : ∀ d ∈ tables_1, d.before a0 Z = true) : (Jvm.Cond.lays "java/util/ImmutableCollections$ListItr" "java/util/ImmutableCollections$ListItr" "cursor" "I").before a0 Z = true := hw _ (List.mem_of_getElem? (i := 67) rfl)
theorem tw68 {Z : State} {a0 : Array Value} (hw : ∀ d ∈ tables_1, d.before a0 Z = true) : (Jvm.Cond.fieldLink "java/util/ImmutableCollections$ListItr" (20 : Nat) "java/util/ImmutableCollections$ListItr" "isListIterator" "Z").before a0 Z = true := hw _ (List.mem_of_getElem? (i := 68) rfl)
theorem tw69 {Z : State} {a0 : Array Value} (hw : ∀ d ∈ tables_1, d.before a0 Z = true) : (Jvm.Cond.laysFinal "java/util/ImmutableCollections$ListItr" "java/util/ImmutableCollections$ListItr" "isListIterator" "Z").before a0 Z = true := hw _ (List.mem_of_getElem? (i := 69) rfl)
theorem tw70 {Z : State} {a0 : Array Value} (hw : ∀ d ∈ tables_1, d.before a0 Z = true) : (Jvm.Cond.methodLink "com/example/abstract_to_verify/abstracttoverify/model/Expression" (13 : Nat) ({ cls := "java/util/Iterator", name := "hasNext", desc := "()Z" } : Jvm.MethodName)).before a0 Z = true := hw _ (List.mem_of_getElem? (i := 70) rfl)
theorem tw71 {Z : State} {a0 : Array Value} (hw : ∀ d ∈ tables_1, d.before a0 Z = true) : (Jvm.Cond.declares ({ cls := "java/util/Iterator", name := "hasNext", desc := "()Z" } : Jvm.MethodName)).before a0 Z = true := hw _ (List.mem_of_getElem? (i := 71) rfl)
theorem tw72 {Z : State} {a0 : Array Value} (hw : ∀ d ∈ tables_1, d.before a0 Z = true) : (Jvm.Cond.interfaceMethod "java/util/Iterator" "java/util/Iterator" "hasNext" "()Z").before a0 Z = true := hw _ (List.mem_of_getElem? (i := 72) rfl)
theorem tw73 {Z : State} {a0 : Array Value} (hw : ∀ d ∈ tables_1, d.before a0 Z = true) : (Jvm.Cond.selects "java/util/ImmutableCollections$ListItr" ({ cls := "java/util/Iterator", name := "hasNext", desc := "()Z" } : Jvm.MethodName) ({ cls := "java/util/ImmutableCollections$ListItr", name := "hasNext", desc := "()Z" } : Jvm.MethodName)).before a0 Z = true := hw _ (List.mem_of_getElem? (i := 73) rfl)
theorem tw74 {Z : State} {a0 : Array Value} (hw : ∀ d ∈ tables_1, d.before a0 Z = true) : (Jvm.Cond.instanceMethod ({ cls := "java/util/ImmutableCollections$ListItr", name := "hasNext", desc := "()Z" } : Jvm.MethodName)).before a0 Z = true := hw _ (List.mem_of_getElem? (i := 74) rfl)
theorem tw75 {Z : State} {a0 : Array Value} (hw : ∀ d ∈ tables_1, d.before a0 Z = true) : (Jvm.Cond.publicMethod ({ cls := "java/util/ImmutableCollections$ListItr", name := "hasNext", desc := "()Z" } : Jvm.MethodName)).before a0 Z = true := hw _ (List.mem_of_getElem? (i := 75) rfl)
theorem tw76 {Z : State} {a0 : Array Value} (hw : ∀ d ∈ tables_1, d.before a0 Z = true) : (Jvm.Cond.unhidden "java/util/ImmutableCollections$ListItr" "hasNext" "()Z").before a0 Z = true := hw _ (List.mem_of_getElem? (i := 76) rfl)
theorem tw77 {Z : State} {a0 : Array Value} (hw : ∀ d ∈ tables_1, d.before a0 Z = true) : (Jvm.Cond.castable "java/util/ImmutableCollections$ListItr" "java/util/Iterator").before a0 Z = true := hw _ (List.mem_of_getElem? (i := 77) rfl)
theorem tw78 {Z : State} {a0 : Array Value} (hw : ∀ d ∈ tables_1, d.before a0 Z = true) : (Jvm.Cond.code ({ cls := "java/util/ImmutableCollections$ListItr", name := "hasNext", desc := "()Z" } : Jvm.MethodName) jdk_53_method_3_code (1 : Nat) (Option.some Jvm.ClassFile.FieldType.boolean)).before a0 Z = true := hw _ (List.mem_of_getElem? (i := 78) rfl)
theorem tw79 {Z : State} {a0 : Array Value} (hw : ∀ d ∈ tables_1, d.before a0 Z = true) : (Jvm.Cond.fieldLink "com/example/abstract_to_verify/abstracttoverify/model/Expression" (25 : Nat) "com/example/abstract_to_verify/abstracttoverify/model/Expression" "depth" "I").before a0 Z = true := hw _ (List.mem_of_getElem? (i := 79) rfl)
theorem tw80 {Z : State} {a0 : Array Value} (hw : ∀ d ∈ tables_1, d.before a0 Z = true) : (Jvm.Cond.laysFinal "com/example/abstract_to_verify/abstracttoverify/model/Variable" "com/example/abstract_to_verify/abstracttoverify/model/Expression" "depth" "I").before a0 Z = true := hw _ (List.mem_of_getElem? (i := 80) rfl)
theorem tw81 {Z : State} {a0 : Array Value} (hw : ∀ d ∈ tables_1, d.before a0 Z = true) : (Jvm.Cond.fieldLink "com/example/abstract_to_verify/abstracttoverify/model/Variable" (13 : Nat) "com/example/abstract_to_verify/abstracttoverify/model/Variable" "name" "Ljava/lang/String;").before a0 Z = true := hw _ (List.mem_of_getElem? (i := 81) rfl)
theorem tw82 {Z : State} {a0 : Array Value} (hw : ∀ d ∈ tables_1, d.before a0 Z = true) : (Jvm.Cond.laysFinal "com/example/abstract_to_verify/abstracttoverify/model/Variable" "com/example/abstract_to_verify/abstracttoverify/model/Variable" "name" "Ljava/lang/String;").before a0 Z = true := hw _ (List.mem_of_getElem? (i := 82) rfl)
theorem tw83 {Z : State} {a0 : Array Value} (hw : ∀ d ∈ tables_1, d.before a0 Z = true) : (Jvm.Cond.fieldLink "com/example/abstract_to_verify/abstracttoverify/model/Variable" (19 : Nat) "com/example/abstract_to_verify/abstracttoverify/model/Variable" "locationCounter" "Z").before a0 Z = true := hw _ (List.mem_of_getElem? (i := 83) rfl)
theorem tw84 {Z : State} {a0 : Array Value} (hw : ∀ d ∈ tables_1, d.before a0 Z = true) : (Jvm.Cond.laysFinal "com/example/abstract_to_verify/abstracttoverify/model/Variable" "com/example/abstract_to_verify/abstracttoverify/model/Variable" "locationCounter" "Z").before a0 Z = true := hw _ (List.mem_of_getElem? (i := 84) rfl)
theorem tw85 {Z : State} {a0 : Array Value} (hw : ∀ d ∈ tables_1, d.before a0 Z = true) : (Jvm.Cond.fieldLink "com/example/abstract_to_verify/abstracttoverify/model/Variable" (23 : Nat) "com/example/abstract_to_verify/abstracttoverify/model/Variable" "index" "I").before a0 Z = true := hw _ (List.mem_of_getElem? (i := 85) rfl)
theorem tw86 {Z : State} {a0 : Array Value} (hw : ∀ d ∈ tables_1, d.before a0 Z = true) : (Jvm.Cond.laysFinal "com/example/abstract_to_verify/abstracttoverify/model/Variable" "com/example/abstract_to_verify/abstracttoverify/model/Variable" "index" "I").before a0 Z = true := hw _ (List.mem_of_getElem? (i := 86) rfl)
theorem tw88 {Z : State} {a0 : Array Value} (hw : ∀ d ∈ tables_1, d.before a0 Z = true) : (Jvm.Cond.stringLink "com/example/abstract_to_verify/abstracttoverify/model/SubstitutionVariablePinLaw" (15 : Nat) "y").before a0 Z = true := hw _ (List.mem_of_getElem? (i := 88) rfl)
theorem tw89 {Z : State} {a0 : Array Value} (hw : ∀ d ∈ tables_1, d.before a0 Z = true) : (Jvm.Cond.stringLink "com/example/abstract_to_verify/abstracttoverify/model/SubstitutionVariablePinLaw" (17 : Nat) "z").before a0 Z = true := hw _ (List.mem_of_getElem? (i := 89) rfl)
theorem tw90 {Z : State} {a0 : Array Value} (hw : ∀ d ∈ tables_1, d.before a0 Z = true) : (Jvm.Cond.classLink "com/example/abstract_to_verify/abstracttoverify/model/SubstitutionVariablePinLaw" (19 : Nat) "java/util/ArrayList").before a0 Z = true := hw _ (List.mem_of_getElem? (i := 90) rfl)
theorem tw91 {Z : State} {a0 : Array Value} (hw : ∀ d ∈ tables_1, d.before a0 Z = true) : (Jvm.Cond.instantiable "java/util/ArrayList" (3 : Nat)).before a0 Z = true := hw _ (List.mem_of_getElem? (i := 91) rfl)
theorem tw92 {Z : State} {a0 : Array Value} (hw : ∀ d ∈ tables_1, d.before a0 Z = true) : (Jvm.Cond.initialized "java/util/ArrayList").before a0 Z = true := hw _ (List.mem_of_getElem? (i := 92) rfl)
theorem tw93 {Z : State} {a0 : Array Value} (hw : ∀ d ∈ tables_1, d.before a0 Z = true) : (Jvm.Cond.methodLink "com/example/abstract_to_verify/abstracttoverify/model/SubstitutionVariablePinLaw" (21 : Nat) ({ cls := "java/util/ArrayList", name := "<init>", desc := "()V" } : Jvm.MethodName)).before a0 Z = true := hw _ (List.mem_of_getElem? (i := 93) rfl)
theorem tw94 {Z : State} {a0 : Array Value} (hw : ∀ d ∈ tables_1, d.before a0 Z = true) : (Jvm.Cond.instanceMethod ({ cls := "java/util/ArrayList", name := "<init>", desc := "()V" } : Jvm.MethodName)).before a0 Z = true := hw _ (List.mem_of_getElem? (i := 94) rfl)
theorem tw95 {Z : State} {a0 : Array Value} (hw : ∀ d ∈ tables_1, d.before a0 Z = true) : (Jvm.Cond.code ({ cls := "java/util/ArrayList", name := "<init>", desc := "()V" } : Jvm.MethodName) jdk_38_method_2_code (1 : Nat) (Option.none : Option Jvm.ClassFile.FieldType)).before a0 Z = true := hw _ (List.mem_of_getElem? (i := 95) rfl)
theorem tw96 {Z : State} {a0 : Array Value} (hw : ∀ d ∈ tables_1, d.before a0 Z = true) : (Jvm.Cond.methodLink "java/util/ArrayList" (1 : Nat) ({ cls := "java/util/AbstractList", name := "<init>", desc := "()V" } : Jvm.MethodName)).before a0 Z = true := hw _ (List.mem_of_getElem? (i := 96) rfl)
theorem tw97 {Z : State} {a0 : Array Value} (hw : ∀ d ∈ tables_1, d.before a0 Z = true) : (Jvm.Cond.instanceMethod ({ cls := "java/util/AbstractList", name := "<init>", desc := "()V" } : Jvm.MethodName)).before a0 Z = true := hw _ (List.mem_of_getElem? (i := 97) rfl)
theorem tw100 {Z : State} {a0 : Array Value} (hw : ∀ d ∈ tables_1, d.before a0 Z = true) : (Jvm.Cond.initialized "java/util/AbstractList").before a0 Z = true := hw _ (List.mem_of_getElem? (i := 100) rfl)
theorem tw101 {Z : State} {a0 : Array Value} (hw : ∀ d ∈ tables_1, d.before a0 Z = true) : (Jvm.Cond.code ({ cls := "java/util/AbstractList", name := "<init>", desc := "()V" } : Jvm.MethodName) jdk_39_method_1_code (1 : Nat) (Option.none : Option Jvm.ClassFile.FieldType)).before a0 Z = true := hw _ (List.mem_of_getElem? (i := 101) rfl)
theorem tw102 {Z : State} {a0 : Array Value} (hw : ∀ d ∈ tables_1, d.before a0 Z = true) : (Jvm.Cond.methodLink "java/util/AbstractList" (1 : Nat) ({ cls := "java/util/AbstractCollection", name := "<init>", desc := "()V" } : Jvm.MethodName)).before a0 Z = true := hw _ (List.mem_of_getElem? (i := 102) rfl)
theorem tw103 {Z : State} {a0 : Array Value} (hw : ∀ d ∈ tables_1, d.before a0 Z = true) : (Jvm.Cond.instanceMethod ({ cls := "java/util/AbstractCollection", name := "<init>", desc := "()V" } : Jvm.MethodName)).before a0 Z = true := hw _ (List.mem_of_getElem? (i := 103) rfl)
theorem tw106 {Z : State} {a0 : Array Value} (hw : ∀ d ∈ tables_1, d.before a0 Z = true) : (Jvm.Cond.initialized "java/util/AbstractCollection").before a0 Z = true := hw _ (List.mem_of_getElem? (i := 106) rfl)
theorem tw107 {Z : State} {a0 : Array Value} (hw : ∀ d ∈ tables_1, d.before a0 Z = true) : (Jvm.Cond.code ({ cls := "java/util/AbstractCollection", name := "<init>", desc := "()V" } : Jvm.MethodName) jdk_22_method_1_code (1 : Nat) (Option.none : Option Jvm.ClassFile.FieldType)).before a0 Z = true := hw _ (List.mem_of_getElem? (i := 107) rfl)
theorem tw108 {Z : State} {a0 : Array Value} (hw : ∀ d ∈ tables_1, d.before a0 Z = true) : (Jvm.Cond.methodLink "java/util/AbstractCollection" (1 : Nat) ({ cls := "java/lang/Object", name := "<init>", desc := "()V" } : Jvm.MethodName)).before a0 Z = true := hw _ (List.mem_of_getElem? (i := 108) rfl)
theorem tw109 {Z : State} {a0 : Array Value} (hw : ∀ d ∈ tables_1, d.before a0 Z = true) : (Jvm.Cond.fieldLink "java/util/AbstractList" (7 : Nat) "java/util/AbstractList" "modCount" "I").before a0 Z = true := hw _ (List.mem_of_getElem? (i := 109) rfl)
theorem tw110 {Z : State} {a0 : Array Value} (hw : ∀ d ∈ tables_1, d.before a0 Z = true) : (Jvm.Cond.lays "java/util/ArrayList" "java/util/AbstractList" "modCount" "I").before a0 Z = true := hw _ (List.mem_of_getElem? (i := 110) rfl)
theorem tw111 {Z : State} {a0 : Array Value} (hw : ∀ d ∈ tables_1, d.before a0 Z = true) : (Jvm.Cond.fieldLink "java/util/ArrayList" (39 : Nat) "java/util/ArrayList" "DEFAULTCAPACITY_EMPTY_ELEMENTDATA" "[Ljava/lang/Object;").before a0 Z = true := hw _ (List.mem_of_getElem? (i := 111) rfl)
theorem tw112 {Z : State} {a0 : Array Value} (hw : ∀ d ∈ tables_1, d.before a0 Z = true) : (Jvm.Cond.fieldLink "java/util/ArrayList" (9 : Nat) "java/util/ArrayList" "elementData" "[Ljava/lang/Object;").before a0 Z = true := hw _ (List.mem_of_getElem? (i := 112) rfl)
theorem tw113 {Z : State} {a0 : Array Value} (hw : ∀ d ∈ tables_1, d.before a0 Z = true) : (Jvm.Cond.lays "java/util/ArrayList" "java/util/ArrayList" "elementData" "[Ljava/lang/Object;").before a0 Z = true := hw _ (List.mem_of_getElem? (i := 113) rfl)
theorem tw114 {Z : State} {a0 : Array Value} (hw : ∀ d ∈ tables_1, d.before a0 Z = true) : (Jvm.Cond.classLink "com/example/abstract_to_verify/abstracttoverify/model/SubstitutionVariablePinLaw" (33 : Nat) "com/example/abstract_to_verify/abstracttoverify/model/Substitution").before a0 Z = true := hw _ (List.mem_of_getElem? (i := 114) rfl)
theorem tw115 {Z : State} {a0 : Array Value} (hw : ∀ d ∈ tables_1, d.before a0 Z = true) : (Jvm.Cond.instantiable "com/example/abstract_to_verify/abstracttoverify/model/Substitution" (1 : Nat)).before a0 Z = true := hw _ (List.mem_of_getElem? (i := 115) rfl)
theorem tw116 {Z : State} {a0 : Array Value} (hw : ∀ d ∈ tables_1, d.before a0 Z = true) : (Jvm.Cond.initialized "com/example/abstract_to_verify/abstracttoverify/model/Substitution").before a0 Z = true := hw _ (List.mem_of_getElem? (i := 116) rfl)
theorem tw117 {Z : State} {a0 : Array Value} (hw : ∀ d ∈ tables_1, d.before a0 Z = true) : (Jvm.Cond.methodLink "com/example/abstract_to_verify/abstracttoverify/model/SubstitutionVariablePinLaw" (35 : Nat) ({ cls := "com/example/abstract_to_verify/abstracttoverify/model/Substitution", name := "<init>", desc := "(ILjava/util/List;)V" } : Jvm.MethodName)).before a0 Z = true := hw _ (List.mem_of_getElem? (i := 117) rfl)
theorem tw118 {Z : State} {a0 : Array Value} (hw : ∀ d ∈ tables_1, d.before a0 Z = true) : (Jvm.Cond.instanceMethod ({ cls := "com/example/abstract_to_verify/abstracttoverify/model/Substitution", name := "<init>", desc := "(ILjava/util/List;)V" } : Jvm.MethodName)).before a0 Z = true := hw _ (List.mem_of_getElem? (i := 118) rfl)
theorem tw119 {Z : State} {a0 : Array Value} (hw : ∀ d ∈ tables_1, d.before a0 Z = true) : (Jvm.Cond.code ({ cls := "com/example/abstract_to_verify/abstracttoverify/model/Substitution", name := "<init>", desc := "(ILjava/util/List;)V" } : Jvm.MethodName) prog_108_method_1_code (5 : Nat) (Option.none : Option Jvm.ClassFile.FieldType)).before a0 Z = true := hw _ (List.mem_of_getElem? (i := 119) rfl)
theorem tw120 {Z : State} {a0 : Array Value} (hw : ∀ d ∈ tables_1, d.before a0 Z = true) : (Jvm.Cond.methodLink "com/example/abstract_to_verify/abstracttoverify/model/Substitution" (1 : Nat) ({ cls := "java/lang/Object", name := "<init>", desc := "()V" } : Jvm.MethodName)).before a0 Z = true := hw _ (List.mem_of_getElem? (i := 120) rfl)
theorem tw121 {Z : State} {a0 : Array Value} (hw : ∀ d ∈ tables_1, d.before a0 Z = true) : (Jvm.Cond.classLink "com/example/abstract_to_verify/abstracttoverify/model/Substitution" (7 : Nat) "com/example/abstract_to_verify/abstracttoverify/model/Term").before a0 Z = true := hw _ (List.mem_of_getElem? (i := 121) rfl)
theorem tw122 {Z : State} {a0 : Array Value} (hw : ∀ d ∈ tables_1, d.before a0 Z = true) : (Jvm.Cond.arrayOver (Jvm.ClassFile.FieldType.object "com/example/abstract_to_verify/abstracttoverify/model/Term")).before a0 Z = true := hw _ (List.mem_of_getElem? (i := 122) rfl)
theorem tw123 {Z : State} {a0 : Array Value} (hw : ∀ d ∈ tables_1, d.before a0 Z = true) : (Jvm.Cond.fieldLink "com/example/abstract_to_verify/abstracttoverify/model/Substitution" (9 : Nat) "com/example/abstract_to_verify/abstracttoverify/model/Substitution" "replacements" "[Lcom/example/abstract_to_verify/abstracttoverify/model/Term;").before a0 Z = true := hw _ (List.mem_of_getElem? (i := 123) rfl)
theorem tw124 {Z : State} {a0 : Array Value} (hw : ∀ d ∈ tables_1, d.before a0 Z = true) : (Jvm.Cond.laysFinal "com/example/abstract_to_verify/abstracttoverify/model/Substitution" "com/example/abstract_to_verify/abstracttoverify/model/Substitution" "replacements" "[Lcom/example/abstract_to_verify/abstracttoverify/model/Term;").before a0 Z = true := hw _ (List.mem_of_getElem? (i := 124) rfl)
theorem tw125 {Z : State} {a0 : Array Value} (hw : ∀ d ∈ tables_1, d.before a0 Z = true) : (Jvm.Cond.methodLink "com/example/abstract_to_verify/abstracttoverify/model/Substitution" (15 : Nat) ({ cls := "java/util/List", name := "iterator", desc := "()Ljava/util/Iterator;" } : Jvm.MethodName)).before a0 Z = true := hw _ (List.mem_of_getElem? (i := 125) rfl)
theorem tw126 {Z : State} {a0 : Array Value} (hw : ∀ d ∈ tables_1, d.before a0 Z = true) : (Jvm.Cond.selects "java/util/ArrayList" ({ cls := "java/util/List", name := "iterator", desc := "()Ljava/util/Iterator;" } : Jvm.MethodName) ({ cls := "java/util/ArrayList", name := "iterator", desc := "()Ljava/util/Iterator;" } : Jvm.MethodName)).before a0 Z = true := hw _ (List.mem_of_getElem? (i := 126) rfl)
theorem tw127 {Z : State} {a0 : Array Value} (hw : ∀ d ∈ tables_1, d.before a0 Z = true) : (Jvm.Cond.instanceMethod ({ cls := "java/util/ArrayList", name := "iterator", desc := "()Ljava/util/Iterator;" } : Jvm.MethodName)).before a0 Z = true := hw _ (List.mem_of_getElem? (i := 127) rfl)
theorem tw128 {Z : State} {a0 : Array Value} (hw : ∀ d ∈ tables_1, d.before a0 Z = true) : (Jvm.Cond.publicMethod ({ cls := "java/util/ArrayList", name := "iterator", desc := "()Ljava/util/Iterator;" } : Jvm.MethodName)).before a0 Z = true := hw _ (List.mem_of_getElem? (i := 128) rfl)
theorem tw129 {Z : State} {a0 : Array Value} (hw : ∀ d ∈ tables_1, d.before a0 Z = true) : (Jvm.Cond.unhidden "java/util/ArrayList" "iterator" "()Ljava/util/Iterator;").before a0 Z = true := hw _ (List.mem_of_getElem? (i := 129) rfl)
theorem tw130 {Z : State} {a0 : Array Value} (hw : ∀ d ∈ tables_1, d.before a0 Z = true) : (Jvm.Cond.castable "java/util/ArrayList" "java/util/List").before a0 Z = true := hw _ (List.mem_of_getElem? (i := 130) rfl)
theorem tw131 {Z : State} {a0 : Array Value} (hw : ∀ d ∈ tables_1, d.before a0 Z = true) : (Jvm.Cond.code ({ cls := "java/util/ArrayList", name := "iterator", desc := "()Ljava/util/Iterator;" } : Jvm.MethodName) jdk_38_method_55_code (1 : Nat) (Option.some (Jvm.ClassFile.FieldType.object "java/util/Iterator"))).before a0 Z = true := hw _ (List.mem_of_getElem? (i := 131) rfl)
theorem tw132 {Z : State} {a0 : Array Value} (hw : ∀ d ∈ tables_1, d.before a0 Z = true) : (Jvm.Cond.classLink "java/util/ArrayList" (267 : Nat) "java/util/ArrayList$Itr").before a0 Z = true := hw _ (List.mem_of_getElem? (i := 132) rfl)
theorem tw133 {Z : State} {a0 : Array Value} (hw : ∀ d ∈ tables_1, d.before a0 Z = true) : (Jvm.Cond.instantiable "java/util/ArrayList$Itr" (4 : Nat)).before a0 Z = true := hw _ (List.mem_of_getElem? (i := 133) rfl)
theorem tw134 {Z : State} {a0 : Array Value} (hw : ∀ d ∈ tables_1, d.before a0 Z = true) : (Jvm.Cond.initialized "java/util/ArrayList$Itr").before a0 Z = true := hw _ (List.mem_of_getElem? (i := 134) rfl)
theorem tw135 {Z : State} {a0 : Array Value} (hw : ∀ d ∈ tables_1, d.before a0 Z = true) : (Jvm.Cond.methodLink "java/util/ArrayList" (269 : Nat) ({ cls := "java/util/ArrayList$Itr", name := "<init>", desc := "(Ljava/util/ArrayList;)V" } : Jvm.MethodName)).before a0 Z = true := hw _ (List.mem_of_getElem? (i := 135) rfl)
theorem tw136 {Z : State} {a0 : Array Value} (hw : ∀ d ∈ tables_1, d.before a0 Z = true) : (Jvm.Cond.instanceMethod ({ cls := "java/util/ArrayList$Itr", name := "<init>", desc := "(Ljava/util/ArrayList;)V" } : Jvm.MethodName)).before a0 Z = true := hw _ (List.mem_of_getElem? (i := 136) rfl)
theorem tw138 {Z : State} {a0 : Array Value} (hw : ∀ d ∈ tables_1, d.before a0 Z = true) : (Jvm.Cond.code ({ cls := "java/util/ArrayList$Itr", name := "<init>", desc := "(Ljava/util/ArrayList;)V" } : Jvm.MethodName) jdk_49_method_1_code (2 : Nat) (Option.none : Option Jvm.ClassFile.FieldType)).before a0 Z = true := hw _ (List.mem_of_getElem? (i := 138) rfl)
theorem tw139 {Z : State} {a0 : Array Value} (hw : ∀ d ∈ tables_1, d.before a0 Z = true) : (Jvm.Cond.fieldLink "java/util/ArrayList$Itr" (1 : Nat) "java/util/ArrayList$Itr" "this$0" "Ljava/util/ArrayList;").before a0 Z = true := hw _ (List.mem_of_getElem? (i := 139) rfl)
theorem tw140 {Z : State} {a0 : Array Value} (hw : ∀ d ∈ tables_1, d.before a0 Z = true) : (Jvm.Cond.laysFinal "java/util/ArrayList$Itr" "java/util/ArrayList$Itr" "this$0" "Ljava/util/ArrayList;").before a0 Z = true := hw _ (List.mem_of_getElem? (i := 140) rfl)
theorem tw141 {Z : State} {a0 : Array Value} (hw : ∀ d ∈ tables_1, d.before a0 Z = true) : (Jvm.Cond.methodLink "java/util/ArrayList$Itr" (7 : Nat) ({ cls := "java/lang/Object", name := "<init>", desc := "()V" } : Jvm.MethodName)).before a0 Z = true := hw _ (List.mem_of_getElem? (i := 141) rfl)
theorem tw142 {Z : State} {a0 : Array Value} (hw : ∀ d ∈ tables_1, d.before a0 Z = true) : (Jvm.Cond.fieldLink "java/util/ArrayList$Itr" (13 : Nat) "java/util/ArrayList$Itr" "lastRet" "I").before a0 Z = true := hw _ (List.mem_of_getElem? (i := 142) rfl)
theorem tw143 {Z : State} {a0 : Array Value} (hw : ∀ d ∈ tables_1, d.before a0 Z = true) : (Jvm.Cond.lays "java/util/ArrayList$Itr" "java/util/ArrayList$Itr" "lastRet" "I").before a0 Z = true := hw _ (List.mem_of_getElem? (i := 143) rfl)
theorem tw144 {Z : State} {a0 : Array Value} (hw : ∀ d ∈ tables_1, d.before a0 Z = true) : (Jvm.Cond.fieldLink "java/util/ArrayList$Itr" (17 : Nat) "java/util/ArrayList" "modCount" "I").before a0 Z = true := hw _ (List.mem_of_getElem? (i := 144) rfl)
theorem tw145 {Z : State} {a0 : Array Value} (hw : ∀ d ∈ tables_1, d.before a0 Z = true) : (Jvm.Cond.sameField "java/util/ArrayList" "java/util/AbstractList" "modCount" "I").before a0 Z = true := hw _ (List.mem_of_getElem? (i := 145) rfl)
theorem tw146 {Z : State} {a0 : Array Value} (hw : ∀ d ∈ tables_1, d.before a0 Z = true) : (Jvm.Cond.fieldLink "java/util/ArrayList$Itr" (22 : Nat) "java/util/ArrayList$Itr" "expectedModCount" "I").before a0 Z = true := hw _ (List.mem_of_getElem? (i := 146) rfl)
theorem tw147 {Z : State} {a0 : Array Value} (hw : ∀ d ∈ tables_1, d.before a0 Z = true) : (Jvm.Cond.lays "java/util/ArrayList$Itr" "java/util/ArrayList$Itr" "expectedModCount" "I").before a0 Z = true := hw _ (List.mem_of_getElem? (i := 147) rfl)
theorem tw148 {Z : State} {a0 : Array Value} (hw : ∀ d ∈ tables_1, d.before a0 Z = true) : (Jvm.Cond.methodLink "com/example/abstract_to_verify/abstracttoverify/model/Substitution" (21 : Nat) ({ cls := "java/util/Iterator", name := "hasNext", desc := "()Z" } : Jvm.MethodName)).before a0 Z = true := hw _ (List.mem_of_getElem? (i := 148) rfl)
theorem tw149 {Z : State} {a0 : Array Value} (hw : ∀ d ∈ tables_1, d.before a0 Z = true) : (Jvm.Cond.selects "java/util/ArrayList$Itr" ({ cls := "java/util/Iterator", name := "hasNext", desc := "()Z" } : Jvm.MethodName) ({ cls := "java/util/ArrayList$Itr", name := "hasNext", desc := "()Z" } : Jvm.MethodName)).before a0 Z = true := hw _ (List.mem_of_getElem? (i := 149) rfl)
theorem tw150 {Z : State} {a0 : Array Value} (hw : ∀ d ∈ tables_1, d.before a0 Z = true) : (Jvm.Cond.instanceMethod ({ cls := "java/util/ArrayList$Itr", name := "hasNext", desc := "()Z" } : Jvm.MethodName)).before a0 Z = true := hw _ (List.mem_of_getElem? (i := 150) rfl)
theorem tw151 {Z : State} {a0 : Array Value} (hw : ∀ d ∈ tables_1, d.before a0 Z = true) : (Jvm.Cond.publicMethod ({ cls := "java/util/ArrayList$Itr", name := "hasNext", desc := "()Z" } : Jvm.MethodName)).before a0 Z = true := hw _ (List.mem_of_getElem? (i := 151) rfl)
theorem tw152 {Z : State} {a0 : Array Value} (hw : ∀ d ∈ tables_1, d.before a0 Z = true) : (Jvm.Cond.unhidden "java/util/ArrayList$Itr" "hasNext" "()Z").before a0 Z = true := hw _ (List.mem_of_getElem? (i := 152) rfl)
theorem tw153 {Z : State} {a0 : Array Value} (hw : ∀ d ∈ tables_1, d.before a0 Z = true) : (Jvm.Cond.castable "java/util/ArrayList$Itr" "java/util/Iterator").before a0 Z = true := hw _ (List.mem_of_getElem? (i := 153) rfl)
theorem tw154 {Z : State} {a0 : Array Value} (hw : ∀ d ∈ tables_1, d.before a0 Z = true) : (Jvm.Cond.code ({ cls := "java/util/ArrayList$Itr", name := "hasNext", desc := "()Z" } : Jvm.MethodName) jdk_49_method_2_code (1 : Nat) (Option.some Jvm.ClassFile.FieldType.boolean)).before a0 Z = true := hw _ (List.mem_of_getElem? (i := 154) rfl)
theorem tw155 {Z : State} {a0 : Array Value} (hw : ∀ d ∈ tables_1, d.before a0 Z = true) : (Jvm.Cond.fieldLink "java/util/ArrayList$Itr" (25 : Nat) "java/util/ArrayList$Itr" "cursor" "I").before a0 Z = true := hw _ (List.mem_of_getElem? (i := 155) rfl)
theorem tw156 {Z : State} {a0 : Array Value} (hw : ∀ d ∈ tables_1, d.before a0 Z = true) : (Jvm.Cond.lays "java/util/ArrayList$Itr" "java/util/ArrayList$Itr" "cursor" "I").before a0 Z = true := hw _ (List.mem_of_getElem? (i := 156) rfl)
theorem tw157 {Z : State} {a0 : Array Value} (hw : ∀ d ∈ tables_1, d.before a0 Z = true) : (Jvm.Cond.fieldLinkNest "java/util/ArrayList$Itr" (28 : Nat) "java/util/ArrayList" "size" "I" "java/util/ArrayList").before a0 Z = true := hw _ (List.mem_of_getElem? (i := 157) rfl)
theorem tw158 {Z : State} {a0 : Array Value} (hw : ∀ d ∈ tables_1, d.before a0 Z = true) : (Jvm.Cond.lays "java/util/ArrayList" "java/util/ArrayList" "size" "I").before a0 Z = true := hw _ (List.mem_of_getElem? (i := 158) rfl)
theorem tw159 {Z : State} {a0 : Array Value} (hw : ∀ d ∈ tables_1, d.before a0 Z = true) : (Jvm.Cond.methodLink "com/example/abstract_to_verify/abstracttoverify/model/SubstitutionVariablePinLaw" (38 : Nat) ({ cls := "com/example/abstract_to_verify/abstracttoverify/model/Substitution", name := "variable", desc := "(Lcom/example/abstract_to_verify/abstracttoverify/model/Variable;)Lcom/example/abstract_to_verify/abstracttoverify/model/Term;" } : Jvm.MethodName)).before a0 Z = true := hw _ (List.mem_of_getElem? (i := 159) rfl)
theorem tw160 {Z : State} {a0 : Array Value} (hw : ∀ d ∈ tables_1, d.before a0 Z = true) : (Jvm.Cond.declares ({ cls := "com/example/abstract_to_verify/abstracttoverify/model/Substitution", name := "variable", desc := "(Lcom/example/abstract_to_verify/abstracttoverify/model/Variable;)Lcom/example/abstract_to_verify/abstracttoverify/model/Term;" } : Jvm.MethodName)).before a0 Z = true := hw _ (List.mem_of_getElem? (i := 160) rfl)
theorem tw161 {Z : State} {a0 : Array Value} (hw : ∀ d ∈ tables_1, d.before a0 Z = true) : (Jvm.Cond.instanceMethod ({ cls := "com/example/abstract_to_verify/abstracttoverify/model/Substitution", name := "variable", desc := "(Lcom/example/abstract_to_verify/abstracttoverify/model/Variable;)Lcom/example/abstract_to_verify/abstracttoverify/model/Term;" } : Jvm.MethodName)).before a0 Z = true := hw _ (List.mem_of_getElem? (i := 161) rfl)
theorem tw162 {Z : State} {a0 : Array Value} (hw : ∀ d ∈ tables_1, d.before a0 Z = true) : (Jvm.Cond.selects "com/example/abstract_to_verify/abstracttoverify/model/Substitution" ({ cls := "com/example/abstract_to_verify/abstracttoverify/model/Substitution", name := "variable", desc := "(Lcom/example/abstract_to_verify/abstracttoverify/model/Variable;)Lcom/example/abstract_to_verify/abstracttoverify/model/Term;" } : Jvm.MethodName) ({ cls := "com/example/abstract_to_verify/abstracttoverify/model/Substitution", name := "variable", desc := "(Lcom/example/abstract_to_verify/abstracttoverify/model/Variable;)Lcom/example/abstract_to_verify/abstracttoverify/model/Term;" } : Jvm.MethodName)).before a0 Z = true := hw _ (List.mem_of_getElem? (i := 162) rfl)
theorem tw163 {Z : State} {a0 : Array Value} (hw : ∀ d ∈ tables_1, d.before a0 Z = true) : (Jvm.Cond.code ({ cls := "com/example/abstract_to_verify/abstracttoverify/model/Substitution", name := "variable", desc := "(Lcom/example/abstract_to_verify/abstracttoverify/model/Variable;)Lcom/example/abstract_to_verify/abstracttoverify/model/Term;" } : Jvm.MethodName) prog_108_method_3_code (3 : Nat) (Option.some (Jvm.ClassFile.FieldType.object "com/example/abstract_to_verify/abstracttoverify/model/Term"))).before a0 Z = true := hw _ (List.mem_of_getElem? (i := 163) rfl)
theorem tw164 {Z : State} {a0 : Array Value} (hw : ∀ d ∈ tables_1, d.before a0 Z = true) : (Jvm.Cond.methodLink "com/example/abstract_to_verify/abstracttoverify/model/Substitution" (37 : Nat) ({ cls := "com/example/abstract_to_verify/abstracttoverify/model/Variable", name := "index", desc := "()I" } : Jvm.MethodName)).before a0 Z = true := hw _ (List.mem_of_getElem? (i := 164) rfl)
theorem tw165 {Z : State} {a0 : Array Value} (hw : ∀ d ∈ tables_1, d.before a0 Z = true) : (Jvm.Cond.declares ({ cls := "com/example/abstract_to_verify/abstracttoverify/model/Variable", name := "index", desc := "()I" } : Jvm.MethodName)).before a0 Z = true := hw _ (List.mem_of_getElem? (i := 165) rfl)
theorem tw166 {Z : State} {a0 : Array Value} (hw : ∀ d ∈ tables_1, d.before a0 Z = true) : (Jvm.Cond.instanceMethod ({ cls := "com/example/abstract_to_verify/abstracttoverify/model/Variable", name := "index", desc := "()I" } : Jvm.MethodName)).before a0 Z = true := hw _ (List.mem_of_getElem? (i := 166) rfl)
theorem tw167 {Z : State} {a0 : Array Value} (hw : ∀ d ∈ tables_1, d.before a0 Z = true) : (Jvm.Cond.selects "com/example/abstract_to_verify/abstracttoverify/model/Variable" ({ cls := "com/example/abstract_to_verify/abstracttoverify/model/Variable", name := "index", desc := "()I" } : Jvm.MethodName) ({ cls := "com/example/abstract_to_verify/abstracttoverify/model/Variable", name := "index", desc := "()I" } : Jvm.MethodName)).before a0 Z = true := hw _ (List.mem_of_getElem? (i := 167) rfl)
theorem tw168 {Z : State} {a0 : Array Value} (hw : ∀ d ∈ tables_1, d.before a0 Z = true) : (Jvm.Cond.code ({ cls := "com/example/abstract_to_verify/abstracttoverify/model/Variable", name := "index", desc := "()I" } : Jvm.MethodName) prog_117_method_5_code (1 : Nat) (Option.some Jvm.ClassFile.FieldType.int)).before a0 Z = true := hw _ (List.mem_of_getElem? (i := 168) rfl)
theorem tw169 {Z : State} {a0 : Array Value} (hw : ∀ d ∈ tables_1, d.before a0 Z = true) : (Jvm.Cond.methodLink "com/example/abstract_to_verify/abstracttoverify/model/SubstitutionVariablePinLaw" (42 : Nat) ({ cls := "com/example/abstract_to_verify/abstracttoverify/model/SubstitutionVariablePinLaw", name := "expect", desc := "([Lcom/example/abstract_to_verify/abstracttoverify/model/Variable;IIIIII)Lcom/example/abstract_to_verify/abstracttoverify/model/Term;" } : Jvm.MethodName)).before a0 Z = true := hw _ (List.mem_of_getElem? (i := 169) rfl)
theorem tw170 {Z : State} {a0 : Array Value} (hw : ∀ d ∈ tables_1, d.before a0 Z = true) : (Jvm.Cond.static ({ cls := "com/example/abstract_to_verify/abstracttoverify/model/SubstitutionVariablePinLaw", name := "expect", desc := "([Lcom/example/abstract_to_verify/abstracttoverify/model/Variable;IIIIII)Lcom/example/abstract_to_verify/abstracttoverify/model/Term;" } : Jvm.MethodName)).before a0 Z = true := hw _ (List.mem_of_getElem? (i := 170) rfl)
theorem tw171 {Z : State} {a0 : Array Value} (hw : ∀ d ∈ tables_1, d.before a0 Z = true) : (Jvm.Cond.initialized "com/example/abstract_to_verify/abstracttoverify/model/SubstitutionVariablePinLaw").before a0 Z = true := hw _ (List.mem_of_getElem? (i := 171) rfl)
theorem tw172 {Z : State} {a0 : Array Value} (hw : ∀ d ∈ tables_1, d.before a0 Z = true) : (Jvm.Cond.code ({ cls := "com/example/abstract_to_verify/abstracttoverify/model/SubstitutionVariablePinLaw", name := "expect", desc := "([Lcom/example/abstract_to_verify/abstracttoverify/model/Variable;IIIIII)Lcom/example/abstract_to_verify/abstracttoverify/model/Term;" } : Jvm.MethodName) method_2_code (8 : Nat) (Option.some (Jvm.ClassFile.FieldType.object "com/example/abstract_to_verify/abstracttoverify/model/Term"))).before a0 Z = true := hw _ (List.mem_of_getElem? (i := 172) rfl)
theorem tw173 {Z : State} {a0 : Array Value} (hw : ∀ d ∈ tables_1, d.before a0 Z = true) : (Jvm.Cond.classLink "com/example/abstract_to_verify/abstracttoverify/model/SubstitutionVariablePinLaw" (22 : Nat) "com/example/abstract_to_verify/abstracttoverify/model/Assignment").before a0 Z = true := hw _ (List.mem_of_getElem? (i := 173) rfl)
theorem tw174 {Z : State} {a0 : Array Value} (hw : ∀ d ∈ tables_1, d.before a0 Z = true) : (Jvm.Cond.instantiable "com/example/abstract_to_verify/abstracttoverify/model/Assignment" (2 : Nat)).before a0 Z = true := hw _ (List.mem_of_getElem? (i := 174) rfl)
theorem tw175 {Z : State} {a0 : Array Value} (hw : ∀ d ∈ tables_1, d.before a0 Z = true) : (Jvm.Cond.initialized "com/example/abstract_to_verify/abstracttoverify/model/Assignment").before a0 Z = true := hw _ (List.mem_of_getElem? (i := 175) rfl)
theorem tw176 {Z : State} {a0 : Array Value} (hw : ∀ d ∈ tables_1, d.before a0 Z = true) : (Jvm.Cond.methodLink "com/example/abstract_to_verify/abstracttoverify/model/SubstitutionVariablePinLaw" (24 : Nat) ({ cls := "com/example/abstract_to_verify/abstracttoverify/model/Assignment", name := "<init>", desc := "(Lcom/example/abstract_to_verify/abstracttoverify/model/Variable;Lcom/example/abstract_to_verify/abstracttoverify/model/Term;)V" } : Jvm.MethodName)).before a0 Z = true := hw _ (List.mem_of_getElem? (i := 176) rfl)
theorem tw177 {Z : State} {a0 : Array Value} (hw : ∀ d ∈ tables_1, d.before a0 Z = true) : (Jvm.Cond.instanceMethod ({ cls := "com/example/abstract_to_verify/abstracttoverify/model/Assignment", name := "<init>", desc := "(Lcom/example/abstract_to_verify/abstracttoverify/model/Variable;Lcom/example/abstract_to_verify/abstracttoverify/model/Term;)V" } : Jvm.MethodName)).before a0 Z = true := hw _ (List.mem_of_getElem? (i := 177) rfl)
theorem tw178 {Z : State} {a0 : Array Value} (hw : ∀ d ∈ tables_1, d.before a0 Z = true) : (Jvm.Cond.code ({ cls := "com/example/abstract_to_verify/abstracttoverify/model/Assignment", name := "<init>", desc := "(Lcom/example/abstract_to_verify/abstracttoverify/model/Variable;Lcom/example/abstract_to_verify/abstracttoverify/model/Term;)V" } : Jvm.MethodName) prog_67_method_1_code (3 : Nat) (Option.none : Option Jvm.ClassFile.FieldType)).before a0 Z = true := hw _ (List.mem_of_getElem? (i := 178) rfl)
theorem tw179 {Z : State} {a0 : Array Value} (hw : ∀ d ∈ tables_1, d.before a0 Z = true) : (Jvm.Cond.methodLink "com/example/abstract_to_verify/abstracttoverify/model/Assignment" (1 : Nat) ({ cls := "java/lang/Object", name := "<init>", desc := "()V" } : Jvm.MethodName)).before a0 Z = true := hw _ (List.mem_of_getElem? (i := 179) rfl)
theorem tw180 {Z : State} {a0 : Array Value} (hw : ∀ d ∈ tables_1, d.before a0 Z = true) : (Jvm.Cond.fieldLink "com/example/abstract_to_verify/abstracttoverify/model/Assignment" (7 : Nat) "com/example/abstract_to_verify/abstracttoverify/model/Assignment" "target" "Lcom/example/abstract_to_verify/abstracttoverify/model/Variable;").before a0 Z = true := hw _ (List.mem_of_getElem? (i := 180) rfl)
theorem tw181 {Z : State} {a0 : Array Value} (hw : ∀ d ∈ tables_1, d.before a0 Z = true) : (Jvm.Cond.laysFinal "com/example/abstract_to_verify/abstracttoverify/model/Assignment" "com/example/abstract_to_verify/abstracttoverify/model/Assignment" "target" "Lcom/example/abstract_to_verify/abstracttoverify/model/Variable;").before a0 Z = true := hw _ (List.mem_of_getElem? (i := 181) rfl)
theorem tw182 {Z : State} {a0 : Array Value} (hw : ∀ d ∈ tables_1, d.before a0 Z = true) : (Jvm.Cond.fieldLink "com/example/abstract_to_verify/abstracttoverify/model/Assignment" (13 : Nat) "com/example/abstract_to_verify/abstracttoverify/model/Assignment" "value" "Lcom/example/abstract_to_verify/abstracttoverify/model/Term;").before a0 Z = true := hw _ (List.mem_of_getElem? (i := 182) rfl)
theorem tw183 {Z : State} {a0 : Array Value} (hw : ∀ d ∈ tables_1, d.before a0 Z = true) : (Jvm.Cond.laysFinal "com/example/abstract_to_verify/abstracttoverify/model/Assignment" "com/example/abstract_to_verify/abstracttoverify/model/Assignment" "value" "Lcom/example/abstract_to_verify/abstracttoverify/model/Term;").before a0 Z = true := hw _ (List.mem_of_getElem? (i := 183) rfl)
theorem tw184 {Z : State} {a0 : Array Value} (hw : ∀ d ∈ tables_1, d.before a0 Z = true) : (Jvm.Cond.methodLink "com/example/abstract_to_verify/abstracttoverify/model/SubstitutionVariablePinLaw" (27 : Nat) ({ cls := "java/util/List", name := "add", desc := "(Ljava/lang/Object;)Z" } : Jvm.MethodName)).before a0 Z = true := hw _ (List.mem_of_getElem? (i := 184) rfl)
theorem tw185 {Z : State} {a0 : Array Value} (hw : ∀ d ∈ tables_1, d.before a0 Z = true) : (Jvm.Cond.declares ({ cls := "java/util/List", name := "add", desc := "(Ljava/lang/Object;)Z" } : Jvm.MethodName)).before a0 Z = true := hw _ (List.mem_of_getElem? (i := 185) rfl)
theorem tw186 {Z : State} {a0 : Array Value} (hw : ∀ d ∈ tables_1, d.before a0 Z = true) : (Jvm.Cond.interfaceMethod "java/util/List" "java/util/List" "add" "(Ljava/lang/Object;)Z").before a0 Z = true := hw _ (List.mem_of_getElem? (i := 186) rfl)
theorem tw187 {Z : State} {a0 : Array Value} (hw : ∀ d ∈ tables_1, d.before a0 Z = true) : (Jvm.Cond.selects "java/util/ArrayList" ({ cls := "java/util/List", name := "add", desc := "(Ljava/lang/Object;)Z" } : Jvm.MethodName) ({ cls := "java/util/ArrayList", name := "add", desc := "(Ljava/lang/Object;)Z" } : Jvm.MethodName)).before a0 Z = true := hw _ (List.mem_of_getElem? (i := 187) rfl)
theorem tw188 {Z : State} {a0 : Array Value} (hw : ∀ d ∈ tables_1, d.before a0 Z = true) : (Jvm.Cond.instanceMethod ({ cls := "java/util/ArrayList", name := "add", desc := "(Ljava/lang/Object;)Z" } : Jvm.MethodName)).before a0 Z = true := hw _ (List.mem_of_getElem? (i := 188) rfl)
theorem tw189 {Z : State} {a0 : Array Value} (hw : ∀ d ∈ tables_1, d.before a0 Z = true) : (Jvm.Cond.publicMethod ({ cls := "java/util/ArrayList", name := "add", desc := "(Ljava/lang/Object;)Z" } : Jvm.MethodName)).before a0 Z = true := hw _ (List.mem_of_getElem? (i := 189) rfl)
theorem tw190 {Z : State} {a0 : Array Value} (hw : ∀ d ∈ tables_1, d.before a0 Z = true) : (Jvm.Cond.unhidden "java/util/ArrayList" "add" "(Ljava/lang/Object;)Z").before a0 Z = true := hw _ (List.mem_of_getElem? (i := 190) rfl)
theorem tw191 {Z : State} {a0 : Array Value} (hw : ∀ d ∈ tables_1, d.before a0 Z = true) : (Jvm.Cond.code ({ cls := "java/util/ArrayList", name := "add", desc := "(Ljava/lang/Object;)Z" } : Jvm.MethodName) jdk_38_method_25_code (2 : Nat) (Option.some Jvm.ClassFile.FieldType.boolean)).before a0 Z = true := hw _ (List.mem_of_getElem? (i := 191) rfl)
theorem tw192 {Z : State} {a0 : Array Value} (hw : ∀ d ∈ tables_1, d.before a0 Z = true) : (Jvm.Cond.fieldLink "java/util/ArrayList" (63 : Nat) "java/util/ArrayList" "modCount" "I").before a0 Z = true := hw _ (List.mem_of_getElem? (i := 192) rfl)
theorem tw193 {Z : State} {a0 : Array Value} (hw : ∀ d ∈ tables_1, d.before a0 Z = true) : (Jvm.Cond.fieldLink "java/util/ArrayList" (48 : Nat) "java/util/ArrayList" "size" "I").before a0 Z = true := hw _ (List.mem_of_getElem? (i := 193) rfl)
theorem tw194 {Z : State} {a0 : Array Value} (hw : ∀ d ∈ tables_1, d.before a0 Z = true) : (Jvm.Cond.methodLink "java/util/ArrayList" (131 : Nat) ({ cls := "java/util/ArrayList", name := "add", desc := "(Ljava/lang/Object;[Ljava/lang/Object;I)V" } : Jvm.MethodName)).before a0 Z = true := hw _ (List.mem_of_getElem? (i := 194) rfl)
theorem tw195 {Z : State} {a0 : Array Value} (hw : ∀ d ∈ tables_1, d.before a0 Z = true) : (Jvm.Cond.instanceMethod ({ cls := "java/util/ArrayList", name := "add", desc := "(Ljava/lang/Object;[Ljava/lang/Object;I)V" } : Jvm.MethodName)).before a0 Z = true := hw _ (List.mem_of_getElem? (i := 195) rfl)
theorem tw196 {Z : State} {a0 : Array Value} (hw : ∀ d ∈ tables_1, d.before a0 Z = true) : (Jvm.Cond.privateMethod ({ cls := "java/util/ArrayList", name := "add", desc := "(Ljava/lang/Object;[Ljava/lang/Object;I)V" } : Jvm.MethodName)).before a0 Z = true := hw _ (List.mem_of_getElem? (i := 196) rfl)
theorem tw197 {Z : State} {a0 : Array Value} (hw : ∀ d ∈ tables_1, d.before a0 Z = true) : (Jvm.Cond.selects "java/util/ArrayList" ({ cls := "java/util/ArrayList", name := "add", desc := "(Ljava/lang/Object;[Ljava/lang/Object;I)V" } : Jvm.MethodName) ({ cls := "java/util/ArrayList", name := "add", desc := "(Ljava/lang/Object;[Ljava/lang/Object;I)V" } : Jvm.MethodName)).before a0 Z = true := hw _ (List.mem_of_getElem? (i := 197) rfl)
theorem tw198 {Z : State} {a0 : Array Value} (hw : ∀ d ∈ tables_1, d.before a0 Z = true) : (Jvm.Cond.code ({ cls := "java/util/ArrayList", name := "add", desc := "(Ljava/lang/Object;[Ljava/lang/Object;I)V" } : Jvm.MethodName) jdk_38_method_24_code (4 : Nat) (Option.none : Option Jvm.ClassFile.FieldType)).before a0 Z = true := hw _ (List.mem_of_getElem? (i := 198) rfl)
theorem tw199 {Z : State} {a0 : Array Value} (hw : ∀ d ∈ tables_1, d.before a0 Z = true) : (Jvm.Cond.methodLink "java/util/ArrayList" (129 : Nat) ({ cls := "java/util/ArrayList", name := "grow", desc := "()[Ljava/lang/Object;" } : Jvm.MethodName)).before a0 Z = true := hw _ (List.mem_of_getElem? (i := 199) rfl)
theorem tw200 {Z : State} {a0 : Array Value} (hw : ∀ d ∈ tables_1, d.before a0 Z = true) : (Jvm.Cond.instanceMethod ({ cls := "java/util/ArrayList", name := "grow", desc := "()[Ljava/lang/Object;" } : Jvm.MethodName)).before a0 Z = true := hw _ (List.mem_of_getElem? (i := 200) rfl)
theorem tw201 {Z : State} {a0 : Array Value} (hw : ∀ d ∈ tables_1, d.before a0 Z = true) : (Jvm.Cond.privateMethod ({ cls := "java/util/ArrayList", name := "grow", desc := "()[Ljava/lang/Object;" } : Jvm.MethodName)).before a0 Z = true := hw _ (List.mem_of_getElem? (i := 201) rfl)
theorem tw202 {Z : State} {a0 : Array Value} (hw : ∀ d ∈ tables_1, d.before a0 Z = true) : (Jvm.Cond.selects "java/util/ArrayList" ({ cls := "java/util/ArrayList", name := "grow", desc := "()[Ljava/lang/Object;" } : Jvm.MethodName) ({ cls := "java/util/ArrayList", name := "grow", desc := "()[Ljava/lang/Object;" } : Jvm.MethodName)).before a0 Z = true := hw _ (List.mem_of_getElem? (i := 202) rfl)
theorem tw203 {Z : State} {a0 : Array Value} (hw : ∀ d ∈ tables_1, d.before a0 Z = true) : (Jvm.Cond.code ({ cls := "java/util/ArrayList", name := "grow", desc := "()[Ljava/lang/Object;" } : Jvm.MethodName) jdk_38_method_7_code (1 : Nat) (Option.some (Jvm.ClassFile.FieldType.array (Jvm.ClassFile.FieldType.object "java/lang/Object")))).before a0 Z = true := hw _ (List.mem_of_getElem? (i := 203) rfl)
theorem tw204 {Z : State} {a0 : Array Value} (hw : ∀ d ∈ tables_1, d.before a0 Z = true) : (Jvm.Cond.methodLink "java/util/ArrayList" (69 : Nat) ({ cls := "java/util/ArrayList", name := "grow", desc := "(I)[Ljava/lang/Object;" } : Jvm.MethodName)).before a0 Z = true := hw _ (List.mem_of_getElem? (i := 204) rfl)
theorem tw205 {Z : State} {a0 : Array Value} (hw : ∀ d ∈ tables_1, d.before a0 Z = true) : (Jvm.Cond.instanceMethod ({ cls := "java/util/ArrayList", name := "grow", desc := "(I)[Ljava/lang/Object;" } : Jvm.MethodName)).before a0 Z = true := hw _ (List.mem_of_getElem? (i := 205) rfl)
theorem tw206 {Z : State} {a0 : Array Value} (hw : ∀ d ∈ tables_1, d.before a0 Z = true) : (Jvm.Cond.privateMethod ({ cls := "java/util/ArrayList", name := "grow", desc := "(I)[Ljava/lang/Object;" } : Jvm.MethodName)).before a0 Z = true := hw _ (List.mem_of_getElem? (i := 206) rfl)
theorem tw207 {Z : State} {a0 : Array Value} (hw : ∀ d ∈ tables_1, d.before a0 Z = true) : (Jvm.Cond.selects "java/util/ArrayList" ({ cls := "java/util/ArrayList", name := "grow", desc := "(I)[Ljava/lang/Object;" } : Jvm.MethodName) ({ cls := "java/util/ArrayList", name := "grow", desc := "(I)[Ljava/lang/Object;" } : Jvm.MethodName)).before a0 Z = true := hw _ (List.mem_of_getElem? (i := 207) rfl)
theorem tw208 {Z : State} {a0 : Array Value} (hw : ∀ d ∈ tables_1, d.before a0 Z = true) : (Jvm.Cond.code ({ cls := "java/util/ArrayList", name := "grow", desc := "(I)[Ljava/lang/Object;" } : Jvm.MethodName) jdk_38_method_6_code (4 : Nat) (Option.some (Jvm.ClassFile.FieldType.array (Jvm.ClassFile.FieldType.object "java/lang/Object")))).before a0 Z = true := hw _ (List.mem_of_getElem? (i := 208) rfl)
theorem tw209 {Z : State} {a0 : Array Value} (hw : ∀ d ∈ tables_1, d.before a0 Z = true) : (Jvm.Cond.methodLink "java/util/ArrayList" (79 : Nat) ({ cls := "java/lang/Math", name := "max", desc := "(II)I" } : Jvm.MethodName)).before a0 Z = true := hw _ (List.mem_of_getElem? (i := 209) rfl)
theorem tw210 {Z : State} {a0 : Array Value} (hw : ∀ d ∈ tables_1, d.before a0 Z = true) : (Jvm.Cond.static ({ cls := "java/lang/Math", name := "max", desc := "(II)I" } : Jvm.MethodName)).before a0 Z = true := hw _ (List.mem_of_getElem? (i := 210) rfl)
theorem tw211 {Z : State} {a0 : Array Value} (hw : ∀ d ∈ tables_1, d.before a0 Z = true) : (Jvm.Cond.initialized "java/lang/Math").before a0 Z = true := hw _ (List.mem_of_getElem? (i := 211) rfl)
theorem tw212 {Z : State} {a0 : Array Value} (hw : ∀ d ∈ tables_1, d.before a0 Z = true) : (Jvm.Cond.code ({ cls := "java/lang/Math", name := "max", desc := "(II)I" } : Jvm.MethodName) jdk_29_method_65_code (2 : Nat) (Option.some Jvm.ClassFile.FieldType.int)).before a0 Z = true := hw _ (List.mem_of_getElem? (i := 212) rfl)
theorem tw213 {Z : State} {a0 : Array Value} (hw : ∀ d ∈ tables_1, d.before a0 Z = true) : (Jvm.Cond.classLink "java/util/ArrayList" (7 : Nat) "java/lang/Object").before a0 Z = true := hw _ (List.mem_of_getElem? (i := 213) rfl)
theorem tw214 {Z : State} {a0 : Array Value} (hw : ∀ d ∈ tables_1, d.before a0 Z = true) : (Jvm.Cond.arrayOver (Jvm.ClassFile.FieldType.object "java/lang/Object")).before a0 Z = true := hw _ (List.mem_of_getElem? (i := 214) rfl)
theorem tw215 {Z : State} {a0 : Array Value} (hw : ∀ d ∈ tables_1, d.before a0 Z = true) : (Jvm.Cond.castable "com/example/abstract_to_verify/abstracttoverify/model/Assignment" "java/lang/Object").before a0 Z = true := hw _ (List.mem_of_getElem? (i := 215) rfl)
theorem tw216 {Z : State} {a0 : Array Value} (hw : ∀ d ∈ tables_1, d.before a0 Z = true) : (Jvm.Cond.methodLink "com/example/abstract_to_verify/abstracttoverify/model/Substitution" (27 : Nat) ({ cls := "java/util/Iterator", name := "next", desc := "()Ljava/lang/Object;" } : Jvm.MethodName)).before a0 Z = true := hw _ (List.mem_of_getElem? (i := 216) rfl)
theorem tw217 {Z : State} {a0 : Array Value} (hw : ∀ d ∈ tables_1, d.before a0 Z = true) : (Jvm.Cond.declares ({ cls := "java/util/Iterator", name := "next", desc := "()Ljava/lang/Object;" } : Jvm.MethodName)).before a0 Z = true := hw _ (List.mem_of_getElem? (i := 217) rfl)
theorem tw218 {Z : State} {a0 : Array Value} (hw : ∀ d ∈ tables_1, d.before a0 Z = true) : (Jvm.Cond.interfaceMethod "java/util/Iterator" "java/util/Iterator" "next" "()Ljava/lang/Object;").before a0 Z = true := hw _ (List.mem_of_getElem? (i := 218) rfl)
theorem tw219 {Z : State} {a0 : Array Value} (hw : ∀ d ∈ tables_1, d.before a0 Z = true) : (Jvm.Cond.selects "java/util/ArrayList$Itr" ({ cls := "java/util/Iterator", name := "next", desc := "()Ljava/lang/Object;" } : Jvm.MethodName) ({ cls := "java/util/ArrayList$Itr", name := "next", desc := "()Ljava/lang/Object;" } : Jvm.MethodName)).before a0 Z = true := hw _ (List.mem_of_getElem? (i := 219) rfl)
theorem tw220 {Z : State} {a0 : Array Value} (hw : ∀ d ∈ tables_1, d.before a0 Z = true) : (Jvm.Cond.instanceMethod ({ cls := "java/util/ArrayList$Itr", name := "next", desc := "()Ljava/lang/Object;" } : Jvm.MethodName)).before a0 Z = true := hw _ (List.mem_of_getElem? (i := 220) rfl)
theorem tw221 {Z : State} {a0 : Array Value} (hw : ∀ d ∈ tables_1, d.before a0 Z = true) : (Jvm.Cond.publicMethod ({ cls := "java/util/ArrayList$Itr", name := "next", desc := "()Ljava/lang/Object;" } : Jvm.MethodName)).before a0 Z = true := hw _ (List.mem_of_getElem? (i := 221) rfl)
theorem tw222 {Z : State} {a0 : Array Value} (hw : ∀ d ∈ tables_1, d.before a0 Z = true) : (Jvm.Cond.unhidden "java/util/ArrayList$Itr" "next" "()Ljava/lang/Object;").before a0 Z = true := hw _ (List.mem_of_getElem? (i := 222) rfl)
theorem tw223 {Z : State} {a0 : Array Value} (hw : ∀ d ∈ tables_1, d.before a0 Z = true) : (Jvm.Cond.code ({ cls := "java/util/ArrayList$Itr", name := "next", desc := "()Ljava/lang/Object;" } : Jvm.MethodName) jdk_49_method_3_code (3 : Nat) (Option.some (Jvm.ClassFile.FieldType.object "java/lang/Object"))).before a0 Z = true := hw _ (List.mem_of_getElem? (i := 223) rfl)
theorem tw224 {Z : State} {a0 : Array Value} (hw : ∀ d ∈ tables_1, d.before a0 Z = true) : (Jvm.Cond.methodLink "java/util/ArrayList$Itr" (31 : Nat) ({ cls := "java/util/ArrayList$Itr", name := "checkForComodification", desc := "()V" } : Jvm.MethodName)).before a0 Z = true := hw _ (List.mem_of_getElem? (i := 224) rfl)
theorem tw225 {Z : State} {a0 : Array Value} (hw : ∀ d ∈ tables_1, d.before a0 Z = true) : (Jvm.Cond.declares ({ cls := "java/util/ArrayList$Itr", name := "checkForComodification", desc := "()V" } : Jvm.MethodName)).before a0 Z = true := hw _ (List.mem_of_getElem? (i := 225) rfl)
theorem tw226 {Z : State} {a0 : Array Value} (hw : ∀ d ∈ tables_1, d.before a0 Z = true) : (Jvm.Cond.instanceMethod ({ cls := "java/util/ArrayList$Itr", name := "checkForComodification", desc := "()V" } : Jvm.MethodName)).before a0 Z = true := hw _ (List.mem_of_getElem? (i := 226) rfl)
theorem tw227 {Z : State} {a0 : Array Value} (hw : ∀ d ∈ tables_1, d.before a0 Z = true) : (Jvm.Cond.selects "java/util/ArrayList$Itr" ({ cls := "java/util/ArrayList$Itr", name := "checkForComodification", desc := "()V" } : Jvm.MethodName) ({ cls := "java/util/ArrayList$Itr", name := "checkForComodification", desc := "()V" } : Jvm.MethodName)).before a0 Z = true := hw _ (List.mem_of_getElem? (i := 227) rfl)
theorem tw228 {Z : State} {a0 : Array Value} (hw : ∀ d ∈ tables_1, d.before a0 Z = true) : (Jvm.Cond.code ({ cls := "java/util/ArrayList$Itr", name := "checkForComodification", desc := "()V" } : Jvm.MethodName) jdk_49_method_6_code (1 : Nat) (Option.none : Option Jvm.ClassFile.FieldType)).before a0 Z = true := hw _ (List.mem_of_getElem? (i := 228) rfl)
theorem tw229 {Z : State} {a0 : Array Value} (hw : ∀ d ∈ tables_1, d.before a0 Z = true) : (Jvm.Cond.fieldLink "java/util/ArrayList$Itr" (37 : Nat) "java/util/ArrayList" "elementData" "[Ljava/lang/Object;").before a0 Z = true := hw _ (List.mem_of_getElem? (i := 229) rfl)
theorem tw230 {Z : State} {a0 : Array Value} (hw : ∀ d ∈ tables_1, d.before a0 Z = true) : (Jvm.Cond.classLink "com/example/abstract_to_verify/abstracttoverify/model/Substitution" (31 : Nat) "com/example/abstract_to_verify/abstracttoverify/model/Assignment").before a0 Z = true := hw _ (List.mem_of_getElem? (i := 230) rfl)
theorem tw232 {Z : State} {a0 : Array Value} (hw : ∀ d ∈ tables_1, d.before a0 Z = true) : (Jvm.Cond.methodLink "com/example/abstract_to_verify/abstracttoverify/model/Substitution" (33 : Nat) ({ cls := "com/example/abstract_to_verify/abstracttoverify/model/Assignment", name := "target", desc := "()Lcom/example/abstract_to_verify/abstracttoverify/model/Variable;" } : Jvm.MethodName)).before a0 Z = true := hw _ (List.mem_of_getElem? (i := 232) rfl)
theorem tw233 {Z : State} {a0 : Array Value} (hw : ∀ d ∈ tables_1, d.before a0 Z = true) : (Jvm.Cond.declares ({ cls := "com/example/abstract_to_verify/abstracttoverify/model/Assignment", name := "target", desc := "()Lcom/example/abstract_to_verify/abstracttoverify/model/Variable;" } : Jvm.MethodName)).before a0 Z = true := hw _ (List.mem_of_getElem? (i := 233) rfl)
theorem tw234 {Z : State} {a0 : Array Value} (hw : ∀ d ∈ tables_1, d.before a0 Z = true) : (Jvm.Cond.instanceMethod ({ cls := "com/example/abstract_to_verify/abstracttoverify/model/Assignment", name := "target", desc := "()Lcom/example/abstract_to_verify/abstracttoverify/model/Variable;" } : Jvm.MethodName)).before a0 Z = true := hw _ (List.mem_of_getElem? (i := 234) rfl)
theorem tw235 {Z : State} {a0 : Array Value} (hw : ∀ d ∈ tables_1, d.before a0 Z = true) : (Jvm.Cond.selects "com/example/abstract_to_verify/abstracttoverify/model/Assignment" ({ cls := "com/example/abstract_to_verify/abstracttoverify/model/Assignment", name := "target", desc := "()Lcom/example/abstract_to_verify/abstracttoverify/model/Variable;" } : Jvm.MethodName) ({ cls := "com/example/abstract_to_verify/abstracttoverify/model/Assignment", name := "target", desc := "()Lcom/example/abstract_to_verify/abstracttoverify/model/Variable;" } : Jvm.MethodName)).before a0 Z = true := hw _ (List.mem_of_getElem? (i := 235) rfl)
theorem tw236 {Z : State} {a0 : Array Value} (hw : ∀ d ∈ tables_1, d.before a0 Z = true) : (Jvm.Cond.code ({ cls := "com/example/abstract_to_verify/abstracttoverify/model/Assignment", name := "target", desc := "()Lcom/example/abstract_to_verify/abstracttoverify/model/Variable;" } : Jvm.MethodName) prog_67_method_2_code (1 : Nat) (Option.some (Jvm.ClassFile.FieldType.object "com/example/abstract_to_verify/abstracttoverify/model/Variable"))).before a0 Z = true := hw _ (List.mem_of_getElem? (i := 236) rfl)
theorem tw237 {Z : State} {a0 : Array Value} (hw : ∀ d ∈ tables_1, d.before a0 Z = true) : (Jvm.Cond.methodLink "com/example/abstract_to_verify/abstracttoverify/model/Substitution" (43 : Nat) ({ cls := "com/example/abstract_to_verify/abstracttoverify/model/Assignment", name := "value", desc := "()Lcom/example/abstract_to_verify/abstracttoverify/model/Term;" } : Jvm.MethodName)).before a0 Z = true := hw _ (List.mem_of_getElem? (i := 237) rfl)
theorem tw238 {Z : State} {a0 : Array Value} (hw : ∀ d ∈ tables_1, d.before a0 Z = true) : (Jvm.Cond.declares ({ cls := "com/example/abstract_to_verify/abstracttoverify/model/Assignment", name := "value", desc := "()Lcom/example/abstract_to_verify/abstracttoverify/model/Term;" } : Jvm.MethodName)).before a0 Z = true := hw _ (List.mem_of_getElem? (i := 238) rfl)
theorem tw239 {Z : State} {a0 : Array Value} (hw : ∀ d ∈ tables_1, d.before a0 Z = true) : (Jvm.Cond.instanceMethod ({ cls := "com/example/abstract_to_verify/abstracttoverify/model/Assignment", name := "value", desc := "()Lcom/example/abstract_to_verify/abstracttoverify/model/Term;" } : Jvm.MethodName)).before a0 Z = true := hw _ (List.mem_of_getElem? (i := 239) rfl)
theorem tw240 {Z : State} {a0 : Array Value} (hw : ∀ d ∈ tables_1, d.before a0 Z = true) : (Jvm.Cond.selects "com/example/abstract_to_verify/abstracttoverify/model/Assignment" ({ cls := "com/example/abstract_to_verify/abstracttoverify/model/Assignment", name := "value", desc := "()Lcom/example/abstract_to_verify/abstracttoverify/model/Term;" } : Jvm.MethodName) ({ cls := "com/example/abstract_to_verify/abstracttoverify/model/Assignment", name := "value", desc := "()Lcom/example/abstract_to_verify/abstracttoverify/model/Term;" } : Jvm.MethodName)).before a0 Z = true := hw _ (List.mem_of_getElem? (i := 240) rfl)
theorem tw241 {Z : State} {a0 : Array Value} (hw : ∀ d ∈ tables_1, d.before a0 Z = true) : (Jvm.Cond.code ({ cls := "com/example/abstract_to_verify/abstracttoverify/model/Assignment", name := "value", desc := "()Lcom/example/abstract_to_verify/abstracttoverify/model/Term;" } : Jvm.MethodName) prog_67_method_3_code (1 : Nat) (Option.some (Jvm.ClassFile.FieldType.object "com/example/abstract_to_verify/abstracttoverify/model/Term"))).before a0 Z = true := hw _ (List.mem_of_getElem? (i := 241) rfl)
theorem tw242 {Z : State} {a0 : Array Value} (hw : ∀ d ∈ tables_1, d.before a0 Z = true) : (Jvm.Cond.castable "com/example/abstract_to_verify/abstracttoverify/model/Variable" "com/example/abstract_to_verify/abstracttoverify/model/Term").before a0 Z = true := hw _ (List.mem_of_getElem? (i := 242) rfl)
theorem pd_0 : parseMethodDescriptor "()Ljava/util/List;" = some ⟨[], some (.object "java/util/List")⟩ := by decide +kernel
theorem pd_1 : parseMethodDescriptor "()I" = some ⟨[], some .int⟩ := by decide +kernel
theorem pd_2 : parseMethodDescriptor "(Ljava/util/List;I)V" = some ⟨[(.object "java/util/List"), .int], none⟩ := by decide +kernel
theorem pd_3 : parseMethodDescriptor "()Ljava/util/Iterator;" = some ⟨[], some (.object "java/util/Iterator")⟩ := by decide +kernel
theorem pd_4 : parseMethodDescriptor "()Z" = some ⟨[], some .boolean⟩ := by decide +kernel
theorem pd_5 : parseMethodDescriptor "(Ljava/util/List;)V" = some ⟨[(.object "java/util/List")], none⟩ := by decide +kernel
theorem pd_6 : parseMethodDescriptor "(Ljava/lang/String;ZI)V" = some ⟨[(.object "java/lang/String"), .boolean, .int], none⟩ := by decide +kernel
theorem pd_7 : parseMethodDescriptor "()V" = some ⟨[], none⟩ := by decide +kernel
theorem pd_8 : parseMethodDescriptor "(Ljava/util/ArrayList;)V" = some ⟨[(.object "java/util/ArrayList")], none⟩ := by decide +kernel
theorem pd_9 : parseMethodDescriptor "(ILjava/util/List;)V" = some ⟨[.int, (.object "java/util/List")], none⟩ := by decide +kernel
theorem pd_10 : parseMethodDescriptor "(Lcom/example/abstract_to_verify/abstracttoverify/model/Variable;)Lcom/example/abstract_to_verify/abstracttoverify/model/Term;" = some ⟨[(.object "com/example/abstract_to_verify/abstracttoverify/model/Variable")], some (.object "com/example/abstract_to_verify/abstracttoverify/model/Term")⟩ := by decide +kernel
theorem pd_11 : parseMethodDescriptor "([Lcom/example/abstract_to_verify/abstracttoverify/model/Variable;IIIIII)Lcom/example/abstract_to_verify/abstracttoverify/model/Term;" = some ⟨[(.array (.object "com/example/abstract_to_verify/abstracttoverify/model/Variable")), .int, .int, .int, .int, .int, .int], some (.object "com/example/abstract_to_verify/abstracttoverify/model/Term")⟩ := by decide +kernel
theorem pd_12 : parseMethodDescriptor "(Lcom/example/abstract_to_verify/abstracttoverify/model/Variable;Lcom/example/abstract_to_verify/abstracttoverify/model/Term;)V" = some ⟨[(.object "com/example/abstract_to_verify/abstracttoverify/model/Variable"), (.object "com/example/abstract_to_verify/abstracttoverify/model/Term")], none⟩ := by decide +kernel
theorem pd_13 : parseMethodDescriptor "(II)I" = some ⟨[.int, .int], some .int⟩ := by decide +kernel
theorem pd_14 : parseMethodDescriptor "(I)[Ljava/lang/Object;" = some ⟨[.int], some (.array (.object "java/lang/Object"))⟩ := by decide +kernel
theorem pd_15 : parseMethodDescriptor "()[Ljava/lang/Object;" = some ⟨[], some (.array (.object "java/lang/Object"))⟩ := by decide +kernel
theorem pd_16 : parseMethodDescriptor "(Ljava/lang/Object;[Ljava/lang/Object;I)V" = some ⟨[(.object "java/lang/Object"), (.array (.object "java/lang/Object")), .int], none⟩ := by decide +kernel
theorem pd_17 : parseMethodDescriptor "(Ljava/lang/Object;)Z" = some ⟨[(.object "java/lang/Object")], some .boolean⟩ := by decide +kernel
theorem pd_18 : parseMethodDescriptor "()Ljava/lang/Object;" = some ⟨[], some (.object "java/lang/Object")⟩ := by decide +kernel
theorem pd_19 : parseMethodDescriptor "()Lcom/example/abstract_to_verify/abstracttoverify/model/Variable;" = some ⟨[], some (.object "com/example/abstract_to_verify/abstracttoverify/model/Variable")⟩ := by decide +kernel
theorem pd_20 : parseMethodDescriptor "()Lcom/example/abstract_to_verify/abstracttoverify/model/Term;" = some ⟨[], some (.object "com/example/abstract_to_verify/abstracttoverify/model/Term")⟩ := by decide +kernel
theorem own_wS {Z : State} {a0 : Array Value} (hw : ∀ d ∈ tables_1, d.before a0 Z = true) : ∀ a ∈ Bundle.stringAtoms, a.before a0 Z = true := fun d hd => by
  simp only [Bundle.stringAtoms, Bundle.sN, List.mem_cons, List.not_mem_nil, or_false] at hd
  rcases hd with rfl | rfl | rfl | rfl | rfl | rfl | rfl
  · exact hw _ (List.mem_of_getElem? (i := 6) rfl)
  · exact hw _ (List.mem_of_getElem? (i := 7) rfl)
  · exact hw _ (List.mem_of_getElem? (i := 8) rfl)
  · exact hw _ (List.mem_of_getElem? (i := 9) rfl)
  · exact hw _ (List.mem_of_getElem? (i := 10) rfl)
  · exact hw _ (List.mem_of_getElem? (i := 11) rfl)
  · exact hw _ (List.mem_of_getElem? (i := 12) rfl)
theorem pn_0 : plainName "java/util/List" = true := by first | (simp [plainName, overriddenIn]; done) | decide +kernel
theorem pn_1 : plainName "java/util/ImmutableCollections$ListN" = true := by first | (simp [plainName, overriddenIn]; done) | decide +kernel
theorem pn_2 : plainName "java/util/ImmutableCollections$ListItr" = true := by first | (simp [plainName, overriddenIn]; done) | decide +kernel
theorem pn_3 : plainName "java/util/ImmutableCollections$AbstractImmutableList" = true := by first | (simp [plainName, overriddenIn]; done) | decide +kernel
theorem pn_4 : plainName "com/example/abstract_to_verify/abstracttoverify/model/Expression" = true := by first | (simp [plainName, overriddenIn]; done) | decide +kernel
theorem pn_5 : plainName "com/example/abstract_to_verify/abstracttoverify/model/Term" = true := by first | (simp [plainName, overriddenIn]; done) | decide +kernel
theorem pn_6 : plainName "com/example/abstract_to_verify/abstracttoverify/model/Variable" = true := by first | (simp [plainName, overriddenIn]; done) | decide +kernel
theorem pn_7 : plainName "java/util/AbstractCollection" = true := by first | (simp [plainName, overriddenIn]; done) | decide +kernel
theorem pn_8 : plainName "java/util/AbstractList" = true := by first | (simp [plainName, overriddenIn]; done) | decide +kernel
theorem pn_9 : plainName "java/util/ArrayList" = true := by first | (simp [plainName, overriddenIn]; done) | decide +kernel
theorem pn_10 : plainName "com/example/abstract_to_verify/abstracttoverify/model/Substitution" = true := by first | (simp [plainName, overriddenIn]; done) | decide +kernel
theorem pn_11 : plainName "com/example/abstract_to_verify/abstracttoverify/model/SubstitutionVariablePinLaw" = true := by first | (simp [plainName, overriddenIn]; done) | decide +kernel
theorem pn_12 : plainName "java/util/ArrayList$Itr" = true := by first | (simp [plainName, overriddenIn]; done) | decide +kernel
theorem pn_13 : plainName "com/example/abstract_to_verify/abstracttoverify/model/Assignment" = true := by first | (simp [plainName, overriddenIn]; done) | decide +kernel
abbrev xs0 : String := "([Lcom/example/abstract_to_verify/abstracttoverify/model/Variable;IIIIII)Lcom/example/abstract_to_verify/abstracttoverify/model/Term;"
abbrev xs1 : String := "(Lcom/example/abstract_to_verify/abstracttoverify/model/Variable;Lcom/example/abstract_to_verify/abstracttoverify/model/Term;)V"
abbrev xs2 : String := "(Lcom/example/abstract_to_verify/abstracttoverify/model/Variable;)Lcom/example/abstract_to_verify/abstracttoverify/model/Term;"
abbrev xs3 : String := "com/example/abstract_to_verify/abstracttoverify/model/SubstitutionVariablePinLaw"
abbrev xs4 : String := "com/example/abstract_to_verify/abstracttoverify/model/Substitution"
abbrev xs5 : String := "()Lcom/example/abstract_to_verify/abstracttoverify/model/Variable;"
abbrev xs6 : String := "com/example/abstract_to_verify/abstracttoverify/model/Expression"
abbrev xs7 : String := "com/example/abstract_to_verify/abstracttoverify/model/Assignment"
abbrev xs8 : String := "Lcom/example/abstract_to_verify/abstracttoverify/model/Variable;"
abbrev xs9 : String := "com/example/abstract_to_verify/abstracttoverify/model/Variable"
abbrev xs10 : String := "()Lcom/example/abstract_to_verify/abstracttoverify/model/Term;"
abbrev xs11 : String := "[Lcom/example/abstract_to_verify/abstracttoverify/model/Term;"
abbrev xs12 : String := "Lcom/example/abstract_to_verify/abstracttoverify/model/Term;"
abbrev xs13 : String := "com/example/abstract_to_verify/abstracttoverify/model/Term"
abbrev xs14 : String := "java/util/ImmutableCollections$AbstractImmutableList"
abbrev xs15 : String := "(Ljava/lang/Object;[Ljava/lang/Object;I)V"
abbrev xs16 : String := "Ljava/util/ImmutableCollections$ListN;"
abbrev xs17 : String := "java/util/ImmutableCollections$ListItr"
abbrev xs18 : String := "java/util/ImmutableCollections$ListN"
abbrev xs19 : String := "DEFAULTCAPACITY_EMPTY_ELEMENTDATA"
abbrev xs20 : String := "java/util/ImmutableCollections"
abbrev xs21 : String := "java/util/AbstractCollection"
abbrev xs22 : String := "(Ljava/util/ArrayList;)V"
abbrev xs23 : String := "(Ljava/lang/String;ZI)V"
abbrev xs24 : String := "java/util/ArrayList$Itr"
abbrev xs25 : String := "()Ljava/util/Iterator;"
abbrev xs26 : String := "java/util/AbstractList"
abbrev xs27 : String := "(I)[Ljava/lang/Object;"
abbrev xs28 : String := "checkForComodification"
abbrev xs29 : String := "Ljava/util/ArrayList;"
abbrev xs30 : String := "()[Ljava/lang/Object;"
abbrev xs31 : String := "(Ljava/lang/Object;)Z"
abbrev xs32 : String := "(Ljava/util/List;I)V"
abbrev xs33 : String := "(ILjava/util/List;)V"
abbrev xs34 : String := "()Ljava/lang/Object;"
abbrev xs35 : String := "[Ljava/lang/Object;"
abbrev xs36 : String := "(Ljava/util/List;)V"
abbrev xs37 : String := "java/util/ArrayList"
abbrev xs38 : String := "()Ljava/util/List;"
abbrev xs39 : String := "java/util/Iterator"
abbrev xs40 : String := "Ljava/lang/String;"
abbrev xs41 : String := "java/lang/Object"
abbrev xs42 : String := "Ljava/util/List;"
abbrev xs43 : String := "java/lang/String"
abbrev xs44 : String := "expectedModCount"
abbrev xs45 : String := "locationCounter"
abbrev xs46 : String := "java/util/List"
abbrev xs47 : String := "isListIterator"
abbrev xs48 : String := "java/lang/Math"
abbrev xm0 : MethodName := (⟨xs14, "iterator", xs25⟩ : MethodName)
abbrev xm1 : MethodName := (⟨xs17, "hasNext", "()Z"⟩ : MethodName)
abbrev xm2 : MethodName := (⟨xs46, "iterator", xs25⟩ : MethodName)
abbrev xm3 : MethodName := (⟨xs39, "hasNext", "()Z"⟩ : MethodName)
abbrev xm4 : MethodName := (⟨xs37, "iterator", xs25⟩ : MethodName)
abbrev xm5 : MethodName := (⟨xs24, "hasNext", "()Z"⟩ : MethodName)
abbrev xm6 : MethodName := (⟨xs21, "<init>", "()V"⟩ : MethodName)
abbrev xm7 : MethodName := (⟨xs26, "<init>", "()V"⟩ : MethodName)
abbrev xm8 : MethodName := (⟨xs37, "<init>", "()V"⟩ : MethodName)
abbrev xm9 : MethodName := (⟨xs17, "<init>", xs32⟩ : MethodName)
abbrev xm10 : MethodName := (⟨xs13, "<init>", xs36⟩ : MethodName)
abbrev xm11 : MethodName := (⟨xs4, "variable", xs2⟩ : MethodName)
abbrev xm12 : MethodName := (⟨xs24, "<init>", xs22⟩ : MethodName)
abbrev xm13 : MethodName := (⟨xs48, "max", "(II)I"⟩ : MethodName)
abbrev xm14 : MethodName := (⟨xs18, "size", "()I"⟩ : MethodName)
abbrev xm15 : MethodName := (⟨xs6, "<init>", xs36⟩ : MethodName)
abbrev xm16 : MethodName := (⟨xs9, "<init>", xs23⟩ : MethodName)
abbrev xm17 : MethodName := (⟨xs9, "index", "()I"⟩ : MethodName)
abbrev xm18 : MethodName := (⟨xs4, "<init>", xs33⟩ : MethodName)
abbrev xm19 : MethodName := (⟨xs3, "expect", xs0⟩ : MethodName)
abbrev xm20 : MethodName := (⟨xs7, "<init>", xs1⟩ : MethodName)
abbrev xm21 : MethodName := (⟨xs37, "grow", xs27⟩ : MethodName)
abbrev xm22 : MethodName := (⟨xs37, "grow", xs30⟩ : MethodName)
abbrev xm23 : MethodName := (⟨xs24, "next", xs34⟩ : MethodName)
abbrev xm24 : MethodName := (⟨xs7, "target", xs5⟩ : MethodName)
abbrev xm25 : MethodName := (⟨xs7, "value", xs10⟩ : MethodName)
abbrev xm26 : MethodName := (⟨xs39, "next", xs34⟩ : MethodName)
abbrev xm27 : MethodName := (⟨xs37, "add", xs15⟩ : MethodName)
abbrev xm28 : MethodName := (⟨xs37, "add", xs31⟩ : MethodName)
abbrev xm29 : MethodName := (⟨xs24, xs28, "()V"⟩ : MethodName)
abbrev xm30 : MethodName := (⟨xs46, "add", xs31⟩ : MethodName)
abbrev xm31 : MethodName := (⟨xs46, "of", xs38⟩ : MethodName)
abbrev xr0 : Room := ({ frames := 1, cells := 1, slots := 10, locals := 14 } : Room)
abbrev xr1 : Room := ({ frames := 2, cells := 1, slots := 10, locals := 29 } : Room)
abbrev xr2 : Room := ({ frames := 3, cells := 1, slots := 10, locals := 41 } : Room)
abbrev xr3 : Room := ({ frames := 4, cells := 1, slots := 10, locals := 56 } : Room)
abbrev xr4 : Room := ({ frames := 1, cells := 0, slots := 0, locals := 12 } : Room)
abbrev xr5 : Room := ({ frames := 2, cells := 1, slots := 4, locals := 27 } : Room)
abbrev xr6 : Room := ({ frames := 3, cells := 1, slots := 4, locals := 39 } : Room)
abbrev xr7 : Room := ({ frames := 4, cells := 1, slots := 4, locals := 55 } : Room)
abbrev xr8 : Room := ({ frames := 5, cells := 1, slots := 4, locals := 68 } : Room)
abbrev xr9 : Room := ({ frames := 2, cells := 0, slots := 0, locals := 24 } : Room)
abbrev xr10 : Room := ({ frames := 3, cells := 0, slots := 0, locals := 36 } : Room)
abbrev xr11 : Room := ({ frames := 1, cells := 0, slots := 0, locals := 13 } : Room)
abbrev xr12 : Room := ({ frames := 2, cells := 1, slots := 4, locals := 26 } : Room)
abbrev xr13 : Room := ({ frames := 3, cells := 2, slots := 7, locals := 38 } : Room)
abbrev xr14 : Room := ({ frames := 1, cells := 0, slots := 0, locals := 15 } : Room)
abbrev xr15 : Room := ({ frames := 0, cells := 0, slots := 0, locals := 0 } : Room)
theorem ef_List_of_0 (m : MethodId)  : entryFrame m #[] 0 = mkF m 0 #[] [] := by first | (simp [entryFrame, mkF, argsToLocals, Value.category]; done) | rfl
def Q_List_of_0 (Z : State) (el : Addr) (h0 : Heap) (n0 : Nat) (v : Option Value) (h : Heap) (L : List Loc) : Prop := v = some (.ref el) ∧ Fr n0 L ∧ h = h0
set_option maxRecDepth 65536 in
set_option maxHeartbeats 40000000 in
theorem rm_List_of_0 (l : Launch) (Z : State) (a0 : Array Value) (hw : ∀ d ∈ tables_1, d.before a0 Z = true) (ws : List Jvm.Cond) (el : Addr) (h0 : Heap) (n0 : Nat) (Z0 : n0 ≤ h0.size) (Z_S_EMPTY_LIST : Sta Z Z.heap xs20 "EMPTY_LIST" xs16 (.ref el)) (O0 : Old Z n0 h0) :
    MetFree l xm31 (head1 (Jvm.Cond.code xm31 jdk_40_method_36_code 0 (some (.object xs46)) :: ws) xr15) (fun a U => a = #[] ∧ Z.Warmed39 U.vm ∧ U.heap = h0) (fun _ _ _ _ _ => True) (fun _ U o U' => ∃ v L, o = .returned v ∧ Q_List_of_0 Z el h0 n0 v U'.heap L ∧ FrameEnd U o U' L xr15.cells xr15.slots) := by
  refine MetFree.of_bodySF (plainFor_of_name pn_0) hisR ?_
  intro p e s m args below meth c s₁ Bd hml0 hP hK
  obtain ⟨rfl, hZ, hh⟩ := hP
  have hx := Bd.exec
  have hby := Bd.bytes
  have hlk : meth.locks = false := BodyLoose.notSynchronized Bd
  have hml : c.maxLocals = 0 := hml0
  have hown : s.vm.findClass xs46 = some m.cls := findClass_of_methodNamed Bd.named
  have hnm := (name_of_methodNamed Bd.named Bd.method).1
  have X0 : Stand p l e xr15 s m #[] below meth c s₁ [] 0 0 := Stand.of_body Bd
  have e0 : s₁.heap = h0 := by rw [← hh, Bd.state]; rfl
  have N0 := Fr.nil n0
  show Go p e below s (Q_List_of_0 Z el h0 n0) xr15.cells xr15.slots s₁ (entryFrame m #[] 0)
  refine Go.cast (ef_List_of_0 m ) ?_
  show Go p e below s _ _ _ s₁ (mkF m 0 #[] [])
  obtain ⟨T10, X10, e10, st10⟩ := getS2 X0 hx hZ hown (host := "") (Or.inl (tw20 hw)) Via.refl e0 (Z_S_EMPTY_LIST.ext O0.2) (g := (mkF m 0 #[] [])) rfl (hb hby d1_0)
  refine Go.step (fun _ k => st10 _ k) ?_
  show Go p e below s _ _ _ T10 (mkF m 3 #[] [(.ref el)])
  exact Go.retA X10 hx hlk Bd.returns rfl rfl (hb hby d1_3) e10 ⟨rfl, N0, rfl⟩ (by decide) (by decide)

theorem ef_ImmutableCollections_ListN_size_0 (m : MethodId) (x0 : Addr) : entryFrame m #[(.ref x0)] 1 = mkF m 0 #[.val (.ref x0)] [] := by first | (simp [entryFrame, mkF, argsToLocals, Value.category]; done) | rfl
def Q_ImmutableCollections_ListN_size_0 (Z : State) (el : Addr) (ela : Addr) (kel : ClassId) (h0 : Heap) (n0 : Nat) (v : Option Value) (h : Heap) (L : List Loc) : Prop := v = some (.int (0 : Int32)) ∧ Fr n0 L ∧ h = h0
set_option maxRecDepth 65536 in
set_option maxHeartbeats 40000000 in
theorem rm_ImmutableCollections_ListN_size_0 (l : Launch) (Z : State) (a0 : Array Value) (hw : ∀ d ∈ tables_1, d.before a0 Z = true) (ws : List Jvm.Cond) (el : Addr) (ela : Addr) (kel : ClassId) (h0 : Heap) (n0 : Nat) (Z0 : n0 ≤ h0.size) (Z_F_elements_el : Fld Z Z.heap el xs18 "elements" xs35 (.ref ela)) (O0 : Old Z n0 h0) (Z_A_ela : Arv Z Z.heap ela kel (.object xs41) (0 : Int32) [] .null) :
    MetFree l xm14 (head1 (Jvm.Cond.code xm14 jdk_45_method_3_code 1 (some .int) :: ws) xr15) (fun a U => a = #[(.ref el)] ∧ Z.Warmed39 U.vm ∧ U.heap = h0) (fun _ _ _ _ _ => True) (fun _ U o U' => ∃ v L, o = .returned v ∧ Q_ImmutableCollections_ListN_size_0 Z el ela kel h0 n0 v U'.heap L ∧ FrameEnd U o U' L xr15.cells xr15.slots) := by
  refine MetFree.of_bodySF (plainFor_of_name pn_1) hisR ?_
  intro p e s m args below meth c s₁ Bd hml0 hP hK
  obtain ⟨rfl, hZ, hh⟩ := hP
  have hx := Bd.exec
  have hby := Bd.bytes
  have hlk : meth.locks = false := BodyLoose.notSynchronized Bd
  have hml : c.maxLocals = 1 := hml0
  have hown : s.vm.findClass xs18 = some m.cls := findClass_of_methodNamed Bd.named
  have hnm := (name_of_methodNamed Bd.named Bd.method).1
  have X0 : Stand p l e xr15 s m #[(.ref el)] below meth c s₁ [] 0 0 := Stand.of_body Bd
  have e0 : s₁.heap = h0 := by rw [← hh, Bd.state]; rfl
  have N0 := Fr.nil n0
  show Go p e below s (Q_ImmutableCollections_ListN_size_0 Z el ela kel h0 n0) xr15.cells xr15.slots s₁ (entryFrame m #[(.ref el)] 1)
  refine Go.cast (ef_ImmutableCollections_ListN_size_0 m el) ?_
  show Go p e below s _ _ _ s₁ (mkF m 0 #[.val (.ref el)] [])
  refine Go.step (fun _ k => XS.aloadN X0.here hx rfl (hb hby d5_0) rfl rfl k) ?_
  show Go p e below s _ _ _ s₁ (mkF m 1 #[.val (.ref el)] [(.ref el)])
  obtain ⟨T19, X19, e19, st19⟩ := getF X0 hx hZ hown (host := "") (Or.inl (tw55 hw)) Via.refl e0 (Z_F_elements_el.ext O0.2) (g := (mkF m 1 #[.val (.ref el)] [(.ref el)])) rfl rfl (hb hby d5_1)
  refine Go.step (fun _ k => st19 _ k) ?_
  show Go p e below s _ _ _ T19 (mkF m 4 #[.val (.ref el)] [(.ref ela)])
  obtain ⟨cl20, Ar20, -, Sz20, Ng20, -, -⟩ := id (Z_A_ela.ext O0.2)
  have aln20 := X19.arraylength hx (by rw [e19]; exact Ar20.1) (State.isArrayOf_alike hZ.alike Ar20.2.1) (g := (mkF m 4 #[.val (.ref el)] [(.ref ela)])) rfl rfl (hb hby d5_4)
  rw [len_of Sz20 Ng20] at aln20
  refine Go.step (fun _ k => aln20 _ k) ?_
  show Go p e below s _ _ _ T19 (mkF m 5 #[.val (.ref el)] [(.int (0 : Int32))])
  exact Go.retI X19 hx hlk Bd.returns (hb hby d5_5) e19 ⟨rfl, N0, rfl⟩ (by decide) (by decide)

theorem ef_ImmutableCollections_ListItr_new_0 (m : MethodId) (x0 : Addr) (x1 : Addr) (x2 : Int32) : entryFrame m #[(.ref x0), (.ref x1), (.int x2)] 3 = mkF m 0 #[.val (.ref x0), .val (.ref x1), .val (.int x2)] [] := by first | (simp [entryFrame, mkF, argsToLocals, Value.category]; done) | rfl
def Q_ImmutableCollections_ListItr_new_0 (Z : State) (b14 : Addr) (el : Addr) (h0 : Heap) (n0 : Nat) (v : Option Value) (h : Heap) (L : List Loc) : Prop := v = none ∧ Fr n0 L ∧ Keep h0 h [b14] ∧ Fld Z h b14 xs17 "list" xs42 (.ref el) ∧ Fld Z h b14 xs17 "size" "I" (.int (0 : Int32)) ∧ Fld Z h b14 xs17 "cursor" "I" (.int (0 : Int32)) ∧ Fld Z h b14 xs17 xs47 "Z" (.int (0 : Int32))
set_option maxRecDepth 65536 in
set_option maxHeartbeats 40000000 in
theorem rm_ImmutableCollections_ListItr_new_0 (l : Launch) (Z : State) (a0 : Array Value) (hw : ∀ d ∈ tables_1, d.before a0 Z = true) (ws : List Jvm.Cond) (b14 : Addr) (el : Addr) (h0 : Heap) (n0 : Nat) (Z0 : n0 ≤ h0.size) (E_b14 : Exa Z h0 b14 xs17) (F_list_b14 : Fld Z h0 b14 xs17 "list" xs42 .null) (g_b14 : n0 ≤ b14) (F_size_b14 : Fld Z h0 b14 xs17 "size" "I" (.int (0 : Int32))) (F_cursor_b14 : Fld Z h0 b14 xs17 "cursor" "I" (.int (0 : Int32))) (F_isListIterator_b14 : Fld Z h0 b14 xs17 xs47 "Z" (.int (0 : Int32))) :
    MetFree l xm9 (head1 (Jvm.Cond.code xm9 jdk_53_method_1_code 3 none :: ws) xr4) (fun a U => a = #[(.ref b14), (.ref el), (.int (0 : Int32))] ∧ Z.Warmed39 U.vm ∧ U.heap = h0) (fun _ _ _ _ _ => True) (fun _ U o U' => ∃ v L, o = .returned v ∧ Q_ImmutableCollections_ListItr_new_0 Z b14 el h0 n0 v U'.heap L ∧ FrameEnd U o U' L xr4.cells xr4.slots) := by
  refine MetFree.of_bodySF (plainFor_of_name pn_2) hisR ?_
  intro p e s m args below meth c s₁ Bd hml0 hP hK
  obtain ⟨rfl, hZ, hh⟩ := hP
  have hx := Bd.exec
  have hby := Bd.bytes
  have hlk : meth.locks = false := BodyLoose.notSynchronized Bd
  have hml : c.maxLocals = 3 := hml0
  have hown : s.vm.findClass xs17 = some m.cls := findClass_of_methodNamed Bd.named
  have hnm := (name_of_methodNamed Bd.named Bd.method).1
  have X0 : Stand p l e xr4 s m #[(.ref b14), (.ref el), (.int (0 : Int32))] below meth c s₁ [] 0 0 := Stand.of_body Bd
  have e0 : s₁.heap = h0 := by rw [← hh, Bd.state]; rfl
  have N0 := Fr.nil n0
  show Go p e below s (Q_ImmutableCollections_ListItr_new_0 Z b14 el h0 n0) xr4.cells xr4.slots s₁ (entryFrame m #[(.ref b14), (.ref el), (.int (0 : Int32))] 3)
  refine Go.cast (ef_ImmutableCollections_ListItr_new_0 m b14 el (0 : Int32)) ?_
  show Go p e below s _ _ _ s₁ (mkF m 0 #[.val (.ref b14), .val (.ref el), .val (.int (0 : Int32))] [])
  refine Go.step (fun _ k => XS.aloadN X0.here hx rfl (hb hby d6_0) rfl rfl k) ?_
  show Go p e below s _ _ _ s₁ (mkF m 1 #[.val (.ref b14), .val (.ref el), .val (.int (0 : Int32))] [(.ref b14)])
  obtain ⟨T25, X25, e25, st25⟩ := initO X0 hx hZ hown (tw61 hw) (tw33 hw) (tw34 hw) e0 (g := (mkF m 1 #[.val (.ref b14), .val (.ref el), .val (.int (0 : Int32))] [(.ref b14)])) rfl (by rw [hml]; rfl) rfl (hb hby d6_1) (by decide) (W := 0) (by show 2 * 0 + _ ≤ _; exact Nat.le_of_eq rfl) (by decide)
  refine Go.step (fun _ k => st25 _ (XS.aloadN X25.here hx rfl (hb hby d6_4) rfl rfl (XS.aloadN X25.here hx rfl (hb hby d6_5) rfl rfl k))) ?_
  show Go p e below s _ _ _ T25 (mkF m 6 #[.val (.ref b14), .val (.ref el), .val (.int (0 : Int32))] [(.ref el), (.ref b14)])
  obtain ⟨T26, h26, X26, e26, W26, st26⟩ := putF X25 hx hZ hown (host := "") (Or.inl (tw62 hw)) Via.refl e25 F_list_b14 E_b14 (Or.inr ⟨(tw63 hw), rfl, hnm⟩) (tw46 hw) (ty := (.object xs46)) (by decide) rfl rfl (g := (mkF m 6 #[.val (.ref b14), .val (.ref el), .val (.int (0 : Int32))] [(.ref el), (.ref b14)])) rfl rfl (hb hby d6_6)
  have f28 := F_list_b14.same W26
  have N29 := Fr.snoc X26 N0 g_b14
  refine Go.step (fun _ k => st26 _ (XS.aloadN X26.here hx rfl (hb hby d6_9) rfl rfl (XS.iloadN X26.here hx rfl (hb hby d6_10) rfl k))) ?_
  show Go p e below s _ _ _ T26 (mkF m 11 #[.val (.ref b14), .val (.ref el), .val (.int (0 : Int32))] [(.int (0 : Int32)), (.ref b14)])
  have f30 := (F_size_b14.other W26 (Or.inr (slot_ne (Or.inr (tw65 hw)) (Or.inr (tw63 hw)) (by decide) (t := .int) (t' := (.object xs46)) (by decide) (by decide))))
  have f31 := (E_b14.wr W26)
  obtain ⟨T32, h32, X32, e32, W32, st32⟩ := putF X26 hx hZ hown (host := "") (Or.inl (tw64 hw)) Via.refl e26 f30 f31 (Or.inr ⟨(tw65 hw), rfl, hnm⟩) (tw46 hw) (ty := .int) (by decide) rfl rfl (g := (mkF m 11 #[.val (.ref b14), .val (.ref el), .val (.int (0 : Int32))] [(.int (0 : Int32)), (.ref b14)])) rfl rfl (hb hby d6_11)
  have f33 := f30.same W32
  have N34 := Fr.snoc X32 N29 g_b14
  refine Go.step (fun _ k => st32 _ (XS.aloadN X32.here hx rfl (hb hby d6_14) rfl rfl (XS.iconst X32.here hx rfl (hb hby d6_15) k))) ?_
  show Go p e below s _ _ _ T32 (mkF m 16 #[.val (.ref b14), .val (.ref el), .val (.int (0 : Int32))] [(.int (0 : Int32)), (.ref b14)])
  have f35 := ((F_cursor_b14.other W26 (Or.inr (slot_ne (Or.inl (tw67 hw)) (Or.inr (tw63 hw)) (by decide) (t := .int) (t' := (.object xs46)) (by decide) (by decide)))).other W32 (Or.inr (slot_ne (Or.inl (tw67 hw)) (Or.inr (tw65 hw)) (by decide) (t := .int) (t' := .int) (by decide) (by decide))))
  have f36 := (f31.wr W32)
  obtain ⟨T37, h37, X37, e37, W37, st37⟩ := putF X32 hx hZ hown (host := "") (Or.inl (tw66 hw)) Via.refl e32 f35 f36 (Or.inl (tw67 hw)) (tw46 hw) (ty := .int) (by decide) rfl rfl (g := (mkF m 16 #[.val (.ref b14), .val (.ref el), .val (.int (0 : Int32))] [(.int (0 : Int32)), (.ref b14)])) rfl rfl (hb hby d6_16)
  have f38 := f35.same W37
  have N39 := Fr.snoc X37 N34 g_b14
  refine Go.step (fun _ k => st37 _ (XS.aloadN X37.here hx rfl (hb hby d6_19) rfl rfl (XS.iconst X37.here hx rfl (hb hby d6_20) k))) ?_
  show Go p e below s _ _ _ T37 (mkF m 21 #[.val (.ref b14), .val (.ref el), .val (.int (0 : Int32))] [(.int (0 : Int32)), (.ref b14)])
  have f40 := (((F_isListIterator_b14.other W26 (Or.inr (slot_ne (Or.inr (tw69 hw)) (Or.inr (tw63 hw)) (by decide) (t := .boolean) (t' := (.object xs46)) (by decide) (by decide)))).other W32 (Or.inr (slot_ne (Or.inr (tw69 hw)) (Or.inr (tw65 hw)) (by decide) (t := .boolean) (t' := .int) (by decide) (by decide)))).other W37 (Or.inr (slot_ne (Or.inr (tw69 hw)) (Or.inl (tw67 hw)) (by decide) (t := .boolean) (t' := .int) (by decide) (by decide))))
  have f41 := (f36.wr W37)
  obtain ⟨T42, h42, X42, e42, W42, st42⟩ := putFN X37 hx hZ hown (tw68 hw) Via.refl e37 f40 f41 (Or.inr ⟨(tw69 hw), rfl, hnm⟩) (tw46 hw) (ty := .boolean) (v' := (.int (0 : Int32))) (by decide) rfl rfl (g := (mkF m 21 #[.val (.ref b14), .val (.ref el), .val (.int (0 : Int32))] [(.int (0 : Int32)), (.ref b14)])) rfl rfl (hb hby d6_21)
  have f43 := f40.same W42
  have N44 := Fr.snoc X42 N39 g_b14
  refine Go.step (fun _ k => st42 _ k) ?_
  show Go p e below s _ _ _ T42 (mkF m 24 #[.val (.ref b14), .val (.ref el), .val (.int (0 : Int32))] [])
  have f45 := (((((Keep.refl h0 [b14]).wr W26 (Or.inl (List.mem_of_getElem? (i := 0) rfl))).wr W32 (Or.inl (List.mem_of_getElem? (i := 0) rfl))).wr W37 (Or.inl (List.mem_of_getElem? (i := 0) rfl))).wr W42 (Or.inl (List.mem_of_getElem? (i := 0) rfl)))
  have f46 := (((f28.other W32 (Or.inr (slot_ne (Or.inr (tw63 hw)) (Or.inr (tw65 hw)) (by decide) (t := (.object xs46)) (t' := .int) (by decide) (by decide)))).other W37 (Or.inr (slot_ne (Or.inr (tw63 hw)) (Or.inl (tw67 hw)) (by decide) (t := (.object xs46)) (t' := .int) (by decide) (by decide)))).other W42 (Or.inr (slot_ne (Or.inr (tw63 hw)) (Or.inr (tw69 hw)) (by decide) (t := (.object xs46)) (t' := .boolean) (by decide) (by decide))))
  have f47 := ((f33.other W37 (Or.inr (slot_ne (Or.inr (tw65 hw)) (Or.inl (tw67 hw)) (by decide) (t := .int) (t' := .int) (by decide) (by decide)))).other W42 (Or.inr (slot_ne (Or.inr (tw65 hw)) (Or.inr (tw69 hw)) (by decide) (t := .int) (t' := .boolean) (by decide) (by decide))))
  have f48 := (f38.other W42 (Or.inr (slot_ne (Or.inl (tw67 hw)) (Or.inr (tw69 hw)) (by decide) (t := .int) (t' := .boolean) (by decide) (by decide))))
  have f49 := (Nat.le_trans (Nat.le_trans (Nat.le_trans (Nat.le_trans (Nat.le_refl _) (Keep.of_wr W26).1) (Keep.of_wr W32).1) (Keep.of_wr W37).1) (Keep.of_wr W42).1)
  exact Go.retV X42 hx hlk Bd.returns (hb hby d6_24) e42 ⟨rfl, N44, f45, f46, f47, f48, f43⟩ (by decide) (by decide)

theorem ef_ImmutableCollections_AbstractImmutableList_iterator_0 (m : MethodId) (x0 : Addr) : entryFrame m #[(.ref x0)] 1 = mkF m 0 #[.val (.ref x0)] [] := by first | (simp [entryFrame, mkF, argsToLocals, Value.category]; done) | rfl
def Q_ImmutableCollections_AbstractImmutableList_iterator_0 (Z : State) (el : Addr) (ela : Addr) (kel : ClassId) (h0 : Heap) (n0 : Nat) (v : Option Value) (h : Heap) (L : List Loc) : Prop := ∃ (b14 : Addr), v = some (.ref b14) ∧ Fr n0 L ∧ Keep h0 h [] ∧ h0.size ≤ b14 ∧ Exa Z h b14 xs17 ∧ Fld Z h b14 xs17 "list" xs42 (.ref el) ∧ Fld Z h b14 xs17 "size" "I" (.int (0 : Int32)) ∧ Fld Z h b14 xs17 "cursor" "I" (.int (0 : Int32)) ∧ Fld Z h b14 xs17 xs47 "Z" (.int (0 : Int32))
set_option maxRecDepth 65536 in
set_option maxHeartbeats 40000000 in
theorem rm_ImmutableCollections_AbstractImmutableList_iterator_0 (l : Launch) (Z : State) (a0 : Array Value) (hw : ∀ d ∈ tables_1, d.before a0 Z = true) (ws : List Jvm.Cond) (el : Addr) (ela : Addr) (kel : ClassId) (h0 : Heap) (n0 : Nat) (Z0 : n0 ≤ h0.size) (Z_E_el : Exa Z Z.heap el xs18) (Z_F_elements_el : Fld Z Z.heap el xs18 "elements" xs35 (.ref ela)) (O0 : Old Z n0 h0) (Z_A_ela : Arv Z Z.heap ela kel (.object xs41) (0 : Int32) [] .null) :
    MetFree l xm0 (head1 (Jvm.Cond.code xm0 jdk_46_method_10_code 1 (some (.object xs39)) :: ws) xr5) (fun a U => a = #[(.ref el)] ∧ Z.Warmed39 U.vm ∧ U.heap = h0) (fun _ _ _ _ _ => True) (fun _ U o U' => ∃ v L, o = .returned v ∧ Q_ImmutableCollections_AbstractImmutableList_iterator_0 Z el ela kel h0 n0 v U'.heap L ∧ FrameEnd U o U' L xr5.cells xr5.slots) := by
  refine MetFree.of_bodySF (plainFor_of_name pn_3) hisR ?_
  intro p e s m args below meth c s₁ Bd hml0 hP hK
  obtain ⟨rfl, hZ, hh⟩ := hP
  have hx := Bd.exec
  have hby := Bd.bytes
  have hlk : meth.locks = false := BodyLoose.notSynchronized Bd
  have hml : c.maxLocals = 1 := hml0
  have hown : s.vm.findClass xs14 = some m.cls := findClass_of_methodNamed Bd.named
  have hnm := (name_of_methodNamed Bd.named Bd.method).1
  have X0 : Stand p l e xr5 s m #[(.ref el)] below meth c s₁ [] 0 0 := Stand.of_body Bd
  have e0 : s₁.heap = h0 := by rw [← hh, Bd.state]; rfl
  have N0 := Fr.nil n0
  show Go p e below s (Q_ImmutableCollections_AbstractImmutableList_iterator_0 Z el ela kel h0 n0) xr5.cells xr5.slots s₁ (entryFrame m #[(.ref el)] 1)
  refine Go.cast (ef_ImmutableCollections_AbstractImmutableList_iterator_0 m el) ?_
  show Go p e below s _ _ _ s₁ (mkF m 0 #[.val (.ref el)] [])
  obtain ⟨T14, h14, X14, e14, E14, A14, D14, -, st14⟩ := newO X0 hx hZ hown (tw45 hw) (tw46 hw) (tw47 hw) e0 (g := (mkF m 0 #[.val (.ref el)] [])) rfl (hb hby d4_0) (by decide) (by decide)
  obtain ⟨b14, g14⟩ : ∃ z, z = h0.size := ⟨_, rfl⟩
  rw [← g14] at A14 D14 st14
  have f15 : Fld Z h14 b14 xs17 "list" xs42 .null := D14 (Or.inr (tw63 hw)) (ty := (.object xs46)) (by decide)
  have f16 : Fld Z h14 b14 xs17 "size" "I" (.int (0 : Int32)) := D14 (Or.inr (tw65 hw)) (ty := .int) (by decide)
  have f17 : Fld Z h14 b14 xs17 "cursor" "I" (.int (0 : Int32)) := D14 (Or.inl (tw67 hw)) (ty := .int) (by decide)
  have f18 : Fld Z h14 b14 xs17 xs47 "Z" (.int (0 : Int32)) := D14 (Or.inr (tw69 hw)) (ty := .boolean) (by decide)
  refine Go.step (fun _ k => st14 _ (XS.dup X14.here hx rfl (hb hby d4_3) rfl rfl (XS.aloadN X14.here hx rfl (hb hby d4_4) rfl rfl (XS.aloadN X14.here hx rfl (hb hby d4_5) rfl rfl k)))) ?_
  show Go p e below s _ _ _ T14 (mkF m 6 #[.val (.ref el)] [(.ref el), (.ref el), (.ref b14), (.ref b14)])
  have f21 := (O0.ext E14)
  have f22 := (Nat.le_trans Z0 E14.1)
  obtain ⟨cq23, kq23, q23a, q23b, q23c⟩ := isOf hZ e14 (Z_E_el.ext f21.2)
  obtain ⟨_, _, ⟨T23, L23, k23, n23⟩, -, X23, ⟨Lc23, hQ23, l23, y23, z23⟩, st23⟩ := X14.virtualBackUp hx (owner := xs21) (x := (⟨xs14, "size", "()I"⟩ : MethodName)) (y := xm14) hown (mvT hZ (tw48 hw)) (mvT hZ (tw49 hw)) (mvT hZ (tw50 hw)) (by decide) (mvT hZ (tw51 hw)) (mvT hZ (tw52 hw)) (backOf (W := 3) (rm_ImmutableCollections_ListN_size_0 l Z a0 hw [] el ela kel h14 n0 f22 Z_F_elements_el f21 Z_A_ela) hZ (tw54 hw) (tw53 hw) (by decide) (by decide)) q23a q23c (g := (mkF m 6 #[.val (.ref el)] [(.ref el), (.ref el), (.ref b14), (.ref b14)])) rfl (by rw [hml]; rfl) (Steps.refl _) (argsL := []) (rest := [(.ref el), (.ref b14), (.ref b14)]) (lenOf pd_1 rfl) rfl (by show 2 * 0 + _ ≤ _; exact Nat.le_of_eq rfl) (hb hby d4_6) (fun _ _ => ⟨rfl, e14, (by decide : 1 + 0 ≤ _), (by decide : 4 + 0 ≤ _)⟩)
  dsimp only [Pt.U, Pt.locs, Pt.cells, Pt.slots] at X23 l23 y23 z23 st23 hQ23
  subst l23 y23 z23
  obtain ⟨rfl, N23q, eq23⟩ := hQ23
  have N24 := Fr.app N0 N23q
  refine Go.step (fun _ k => st23.trans k) ?_
  show Go p e below s _ _ _ T23 (mkF m 9 #[.val (.ref el)] [(.int (0 : Int32)), (.ref el), (.ref b14), (.ref b14)])
  have g27 := Nat.le_trans Z0 (Nat.le_of_eq g14.symm)
  obtain ⟨_, _, ⟨T50, L50, k50, n50⟩, -, X50, ⟨Lc50, hQ50, l50, y50, z50⟩, st50⟩ := X23.specialBack hx (y := xm9) rfl hown (mvT hZ (tw57 hw)) (mvT hZ (tw58 hw)) (mvT hZ (tw60 hw)) (by decide) (backOf (W := 1) (rm_ImmutableCollections_ListItr_new_0 l Z a0 hw [] b14 el h14 n0 f22 A14 f15 g27 f16 f17 f18) hZ (tw60 hw) (tw47 hw) (by decide) (by decide)) (g := (mkF m 9 #[.val (.ref el)] [(.int (0 : Int32)), (.ref el), (.ref b14), (.ref b14)])) rfl (by rw [hml]; rfl) (Steps.refl _) (a := b14) (argsL := [(.ref el), (.int (0 : Int32))]) (rest := [(.ref b14)]) (lenOf pd_2 rfl) rfl (by show 2 * 0 + _ ≤ _; exact Nat.le_of_eq rfl) (hb hby d4_9) (fun _ _ => ⟨rfl, eq23, (by decide : 1 + 0 ≤ _), (by decide : 4 + 0 ≤ _)⟩)
  dsimp only [Pt.U, Pt.locs, Pt.cells, Pt.slots] at X50 l50 y50 z50 st50 hQ50
  subst l50 y50 z50
  obtain ⟨rfl, N50q, K50, P50_0, P50_1, P50_2, P50_3⟩ := hQ50
  have N51 := Fr.app N24 N50q
  refine Go.step (fun _ k => st50.trans k) ?_
  show Go p e below s _ _ _ T50 (mkF m 12 #[.val (.ref el)] [(.ref b14)])
  have z52 := Nat.le_trans (Nat.le_refl _) (Nat.le_of_eq g14.symm)
  have f53 := (((Keep.refl h0 []).ext E14).trans K50 (allS (Or.inr z52) all0))
  have f54 := (A14.keep K50)
  have f55 := (Nat.le_trans (Nat.le_trans (Nat.le_refl _) E14.1) K50.1)
  exact Go.retA X50 hx hlk Bd.returns rfl rfl (hb hby d4_12) rfl ⟨b14, rfl, N51, f53, z52, f54, P50_0, P50_1, P50_2, P50_3⟩ (by decide) (by decide)

theorem ef_ImmutableCollections_ListItr_hasNext_0 (m : MethodId) (x0 : Addr) : entryFrame m #[(.ref x0)] 1 = mkF m 0 #[.val (.ref x0)] [] := by first | (simp [entryFrame, mkF, argsToLocals, Value.category]; done) | rfl
def Q_ImmutableCollections_ListItr_hasNext_0 (Z : State) (b14_56 : Addr) (h0 : Heap) (n0 : Nat) (v : Option Value) (h : Heap) (L : List Loc) : Prop := v = some (.int (0 : Int32)) ∧ Fr n0 L ∧ h = h0
set_option maxRecDepth 65536 in
set_option maxHeartbeats 40000000 in
theorem rm_ImmutableCollections_ListItr_hasNext_0 (l : Launch) (Z : State) (a0 : Array Value) (hw : ∀ d ∈ tables_1, d.before a0 Z = true) (ws : List Jvm.Cond) (b14_56 : Addr) (h0 : Heap) (n0 : Nat) (Z0 : n0 ≤ h0.size) (F_cursor_b14_56 : Fld Z h0 b14_56 xs17 "cursor" "I" (.int (0 : Int32))) (F_size_b14_56 : Fld Z h0 b14_56 xs17 "size" "I" (.int (0 : Int32))) :
    MetFree l xm1 (head1 (Jvm.Cond.code xm1 jdk_53_method_3_code 1 (some .boolean) :: ws) xr15) (fun a U => a = #[(.ref b14_56)] ∧ Z.Warmed39 U.vm ∧ U.heap = h0) (fun _ _ _ _ _ => True) (fun _ U o U' => ∃ v L, o = .returned v ∧ Q_ImmutableCollections_ListItr_hasNext_0 Z b14_56 h0 n0 v U'.heap L ∧ FrameEnd U o U' L xr15.cells xr15.slots) := by
  refine MetFree.of_bodySF (plainFor_of_name pn_2) hisR ?_
  intro p e s m args below meth c s₁ Bd hml0 hP hK
  obtain ⟨rfl, hZ, hh⟩ := hP
  have hx := Bd.exec
  have hby := Bd.bytes
  have hlk : meth.locks = false := BodyLoose.notSynchronized Bd
  have hml : c.maxLocals = 1 := hml0
  have hown : s.vm.findClass xs17 = some m.cls := findClass_of_methodNamed Bd.named
  have hnm := (name_of_methodNamed Bd.named Bd.method).1
  have X0 : Stand p l e xr15 s m #[(.ref b14_56)] below meth c s₁ [] 0 0 := Stand.of_body Bd
  have e0 : s₁.heap = h0 := by rw [← hh, Bd.state]; rfl
  have N0 := Fr.nil n0
  show Go p e below s (Q_ImmutableCollections_ListItr_hasNext_0 Z b14_56 h0 n0) xr15.cells xr15.slots s₁ (entryFrame m #[(.ref b14_56)] 1)
  refine Go.cast (ef_ImmutableCollections_ListItr_hasNext_0 m b14_56) ?_
  show Go p e below s _ _ _ s₁ (mkF m 0 #[.val (.ref b14_56)] [])
  refine Go.step (fun _ k => XS.aloadN X0.here hx rfl (hb hby d7_0) rfl rfl k) ?_
  show Go p e below s _ _ _ s₁ (mkF m 1 #[.val (.ref b14_56)] [(.ref b14_56)])
  obtain ⟨T58, X58, e58, st58⟩ := getF X0 hx hZ hown (host := "") (Or.inl (tw66 hw)) Via.refl e0 F_cursor_b14_56 (g := (mkF m 1 #[.val (.ref b14_56)] [(.ref b14_56)])) rfl rfl (hb hby d7_1)
  refine Go.step (fun _ k => st58 _ (XS.aloadN X58.here hx rfl (hb hby d7_4) rfl rfl k)) ?_
  show Go p e below s _ _ _ T58 (mkF m 5 #[.val (.ref b14_56)] [(.ref b14_56), (.int (0 : Int32))])
  obtain ⟨T59, X59, e59, st59⟩ := getF X58 hx hZ hown (host := "") (Or.inl (tw64 hw)) Via.refl e58 F_size_b14_56 (g := (mkF m 5 #[.val (.ref b14_56)] [(.ref b14_56), (.int (0 : Int32))])) rfl rfl (hb hby d7_5)
  refine Go.step (fun _ k => st59 _ (XS.icmpYes X59.here hx rfl (pc0 := 8) (pc' := 15) rfl (hb hby d7_8) rfl (teq (by decide)).1 (by decide) (by decide) (XS.iconst X59.here hx rfl (hb hby d7_15) k))) ?_
  show Go p e below s _ _ _ T59 (mkF m 16 #[.val (.ref b14_56)] [(.int (0 : Int32))])
  exact Go.retN X59 hx hlk (t := .boolean) Bd.returns (by simp) (hb hby d7_16) e59 ⟨rfl, N0, rfl⟩ (by decide) (by decide)

theorem ef_Expression_new_0 (m : MethodId) (x0 : Addr) (x1 : Addr) : entryFrame m #[(.ref x0), (.ref x1)] 5 = mkF m 0 #[.val (.ref x0), .val (.ref x1), .unset, .unset, .unset] [] := by first | (simp [entryFrame, mkF, argsToLocals, Value.category]; done) | rfl
def Q_Expression_new_0 (Z : State) (b3 : Addr) (el : Addr) (ela : Addr) (kel : ClassId) (h0 : Heap) (n0 : Nat) (v : Option Value) (h : Heap) (L : List Loc) : Prop := v = none ∧ Fr n0 L ∧ Keep h0 h [b3] ∧ Fld Z h b3 xs6 "depth" "I" (.int (1 : Int32)) ∧ Fld Z h b3 xs9 "index" "I" (.int (0 : Int32)) ∧ Fld Z h b3 xs9 xs45 "Z" (.int (0 : Int32)) ∧ Fld Z h b3 xs9 "name" xs40 .null
set_option maxRecDepth 65536 in
set_option maxHeartbeats 40000000 in
theorem rm_Expression_new_0 (l : Launch) (Z : State) (a0 : Array Value) (hw : ∀ d ∈ tables_1, d.before a0 Z = true) (ws : List Jvm.Cond) (b3 : Addr) (el : Addr) (ela : Addr) (kel : ClassId) (h0 : Heap) (n0 : Nat) (Z0 : n0 ≤ h0.size) (Z_E_el : Exa Z Z.heap el xs18) (Z_F_elements_el : Fld Z Z.heap el xs18 "elements" xs35 (.ref ela)) (O0 : Old Z n0 h0) (Z_A_ela : Arv Z Z.heap ela kel (.object xs41) (0 : Int32) [] .null) (E_b3 : Exa Z h0 b3 xs9) (F_depth_b3 : Fld Z h0 b3 xs6 "depth" "I" (.int (0 : Int32))) (g_b3 : n0 ≤ b3) (F_index_b3 : Fld Z h0 b3 xs9 "index" "I" (.int (0 : Int32))) (F_locationCounter_b3 : Fld Z h0 b3 xs9 xs45 "Z" (.int (0 : Int32))) (F_name_b3 : Fld Z h0 b3 xs9 "name" xs40 .null) :
    MetFree l xm15 (head1 (Jvm.Cond.code xm15 prog_83_method_1_code 5 none :: ws) xr6) (fun a U => a = #[(.ref b3), (.ref el)] ∧ Z.Warmed39 U.vm ∧ U.heap = h0) (fun _ _ _ _ _ => True) (fun _ U o U' => ∃ v L, o = .returned v ∧ Q_Expression_new_0 Z b3 el ela kel h0 n0 v U'.heap L ∧ FrameEnd U o U' L xr6.cells xr6.slots) := by
  refine MetFree.of_bodySF (plainFor_of_name pn_4) hisR ?_
  intro p e s m args below meth c s₁ Bd hml0 hP hK
  obtain ⟨rfl, hZ, hh⟩ := hP
  have hx := Bd.exec
  have hby := Bd.bytes
  have hlk : meth.locks = false := BodyLoose.notSynchronized Bd
  have hml : c.maxLocals = 5 := hml0
  have hown : s.vm.findClass xs6 = some m.cls := findClass_of_methodNamed Bd.named
  have hnm := (name_of_methodNamed Bd.named Bd.method).1
  have X0 : Stand p l e xr6 s m #[(.ref b3), (.ref el)] below meth c s₁ [] 0 0 := Stand.of_body Bd
  have e0 : s₁.heap = h0 := by rw [← hh, Bd.state]; rfl
  have N0 := Fr.nil n0
  show Go p e below s (Q_Expression_new_0 Z b3 el ela kel h0 n0) xr6.cells xr6.slots s₁ (entryFrame m #[(.ref b3), (.ref el)] 5)
  refine Go.cast (ef_Expression_new_0 m b3 el) ?_
  show Go p e below s _ _ _ s₁ (mkF m 0 #[.val (.ref b3), .val (.ref el), .unset, .unset, .unset] [])
  refine Go.step (fun _ k => XS.aloadN X0.here hx rfl (hb hby d3_0) rfl rfl k) ?_
  show Go p e below s _ _ _ s₁ (mkF m 1 #[.val (.ref b3), .val (.ref el), .unset, .unset, .unset] [(.ref b3)])
  obtain ⟨T13, X13, e13, st13⟩ := initO X0 hx hZ hown (tw32 hw) (tw33 hw) (tw34 hw) e0 (g := (mkF m 1 #[.val (.ref b3), .val (.ref el), .unset, .unset, .unset] [(.ref b3)])) rfl (by rw [hml]; rfl) rfl (hb hby d3_1) (by decide) (W := 0) (by show 2 * 0 + _ ≤ _; exact Nat.le_of_eq rfl) (by decide)
  refine Go.step (fun _ k => st13 _ (XS.iconst X13.here hx rfl (hb hby d3_4) (XS.istoreN X13.here hx rfl (hb hby d3_5) rfl (l' := #[.val (.ref b3), .val (.ref el), .val (.int (0 : Int32)), .unset, .unset]) rfl (XS.aloadN X13.here hx rfl (hb hby d3_6) rfl rfl k)))) ?_
  show Go p e below s _ _ _ T13 (mkF m 7 #[.val (.ref b3), .val (.ref el), .val (.int (0 : Int32)), .unset, .unset] [(.ref el)])
  obtain ⟨cq56, kq56, q56a, q56b, q56c⟩ := isOf hZ e13 (Z_E_el.ext O0.2)
  obtain ⟨_, _, ⟨T56, L56, k56, n56⟩, -, X56, ⟨Lc56, hQ56, l56, y56, z56⟩, st56⟩ := X13.interfaceBack hx (xi := xm2) (y := xm0) hown (mvT hZ (tw35 hw)) (mvT hZ (tw36 hw)) (mvT hZ (tw37 hw)) (mvT hZ (tw38 hw)) (mvT hZ (tw39 hw)) (mvT hZ (tw40 hw)) (mvT hZ (tw41 hw)) (mvT hZ (tw42 hw)) (by decide) (backOf (W := 0) (rm_ImmutableCollections_AbstractImmutableList_iterator_0 l Z a0 hw [] el ela kel h0 n0 Z0 Z_E_el Z_F_elements_el O0 Z_A_ela) hZ (tw44 hw) (tw43 hw) (by decide) (by decide)) q56a q56b q56c (g := (mkF m 7 #[.val (.ref b3), .val (.ref el), .val (.int (0 : Int32)), .unset, .unset] [(.ref el)])) rfl (by rw [hml]; rfl) (Steps.refl _) (argsL := []) (rest := []) (lenOf pd_3 rfl) rfl (by show 2 * 0 + _ ≤ _; exact Nat.le_of_eq rfl) (hb hby d3_7) (fun _ _ => ⟨rfl, e13, (by decide : 0 + 1 ≤ _), (by decide : 0 + 4 ≤ _)⟩)
  dsimp only [Pt.U, Pt.locs, Pt.cells, Pt.slots] at X56 l56 y56 z56 st56 hQ56
  subst l56 y56 z56
  obtain ⟨b14_56, rfl, N56q, K56, P56_0, P56_1, P56_2, P56_3, P56_4, P56_5⟩ := hQ56
  have N57 := Fr.app N0 N56q
  refine Go.step (fun _ k => st56.trans (XS.astoreN X56.here hx rfl (hb hby d3_12) rfl rfl (l' := #[.val (.ref b3), .val (.ref el), .val (.int (0 : Int32)), .val (.ref b14_56), .unset]) rfl (XS.aloadN X56.here hx rfl (hb hby d3_13) rfl rfl k))) ?_
  show Go p e below s _ _ _ T56 (mkF m 14 #[.val (.ref b3), .val (.ref el), .val (.int (0 : Int32)), .val (.ref b14_56), .unset] [(.ref b14_56)])
  have f60 := (Nat.le_trans Z0 K56.1)
  obtain ⟨cq61, kq61, q61a, q61b, q61c⟩ := isOf hZ rfl P56_1
  obtain ⟨_, _, ⟨T61, L61, k61, n61⟩, -, X61, ⟨Lc61, hQ61, l61, y61, z61⟩, st61⟩ := X56.interfaceBack hx (xi := xm3) (y := xm1) hown (mvT hZ (tw70 hw)) (mvT hZ (tw71 hw)) (mvT hZ (tw72 hw)) (mvT hZ (tw73 hw)) (mvT hZ (tw74 hw)) (mvT hZ (tw75 hw)) (mvT hZ (tw76 hw)) (mvT hZ (tw77 hw)) (by decide) (backOf (W := 0) (rm_ImmutableCollections_ListItr_hasNext_0 l Z a0 hw [] b14_56 T56.heap n0 f60 P56_4 P56_3) hZ (tw78 hw) (tw47 hw) (by decide) (by decide)) q61a q61b q61c (g := (mkF m 14 #[.val (.ref b3), .val (.ref el), .val (.int (0 : Int32)), .val (.ref b14_56), .unset] [(.ref b14_56)])) rfl (by rw [hml]; rfl) (Steps.refl _) (argsL := []) (rest := []) (lenOf pd_4 rfl) rfl (by show 2 * 0 + _ ≤ _; exact Nat.le_of_eq rfl) (hb hby d3_14) (fun _ _ => ⟨rfl, rfl, (by decide : 1 + 0 ≤ _), (by decide : 4 + 0 ≤ _)⟩)
  dsimp only [Pt.U, Pt.locs, Pt.cells, Pt.slots] at X61 l61 y61 z61 st61 hQ61
  subst l61 y61 z61
  obtain ⟨rfl, N61q, eq61⟩ := hQ61
  have N62 := Fr.app N57 N61q
  refine Go.step (fun _ k => st61.trans (XS.ifYes X61.here hx rfl (pc0 := 19) (pc' := 46) rfl (hb hby d3_19) rfl ((if0 _ _).trans (teq (by decide)).1) (by decide) (by decide) (XS.aloadN X61.here hx rfl (hb hby d3_46) rfl rfl (XS.iloadN X61.here hx rfl (hb hby d3_47) rfl (XS.iconst X61.here hx rfl (hb hby d3_48) (XS.iadd X61.here hx rfl (hb hby d3_49) rfl k)))))) ?_
  show Go p e below s _ _ _ T61 (mkF m 50 #[.val (.ref b3), .val (.ref el), .val (.int (0 : Int32)), .val (.ref b14_56), .unset] [(.int (1 : Int32)), (.ref b3)])
  have f63 := (F_depth_b3.keep K56 nin0)
  have f64 := (E_b3.keep K56)
  obtain ⟨T65, h65, X65, e65, W65, st65⟩ := putF X61 hx hZ hown (host := "") (Or.inl (tw79 hw)) Via.refl eq61 f63 f64 (Or.inr ⟨(tw80 hw), rfl, hnm⟩) (tw3 hw) (ty := .int) (by decide) rfl rfl (g := (mkF m 50 #[.val (.ref b3), .val (.ref el), .val (.int (0 : Int32)), .val (.ref b14_56), .unset] [(.int (1 : Int32)), (.ref b3)])) rfl rfl (hb hby d3_50)
  have f68 := f63.same W65
  have N69 := Fr.snoc X65 N62 g_b3
  refine Go.step (fun _ k => st65 _ k) ?_
  show Go p e below s _ _ _ T65 (mkF m 53 #[.val (.ref b3), .val (.ref el), .val (.int (0 : Int32)), .val (.ref b14_56), .unset] [])
  have f70 := (((Keep.refl h0 [b3]).trans K56 all0).wr W65 (Or.inl (List.mem_of_getElem? (i := 0) rfl)))
  have f71 := ((F_index_b3.keep K56 nin0).other W65 (Or.inr (slot_ne (Or.inr (tw86 hw)) (Or.inr (tw80 hw)) (by decide) (t := .int) (t' := .int) (by decide) (by decide))))
  have f72 := ((F_locationCounter_b3.keep K56 nin0).other W65 (Or.inr (slot_ne (Or.inr (tw84 hw)) (Or.inr (tw80 hw)) (by decide) (t := .boolean) (t' := .int) (by decide) (by decide))))
  have f73 := ((F_name_b3.keep K56 nin0).other W65 (Or.inr (slot_ne (Or.inr (tw82 hw)) (Or.inr (tw80 hw)) (by decide) (t := (.object xs43)) (t' := .int) (by decide) (by decide))))
  have f74 := (Nat.le_trans (Nat.le_trans (Nat.le_refl _) K56.1) (Keep.of_wr W65).1)
  exact Go.retV X65 hx hlk Bd.returns (hb hby d3_53) e65 ⟨rfl, N69, f70, f68, f71, f72, f73⟩ (by decide) (by decide)

theorem ef_Term_new_0 (m : MethodId) (x0 : Addr) (x1 : Addr) : entryFrame m #[(.ref x0), (.ref x1)] 2 = mkF m 0 #[.val (.ref x0), .val (.ref x1)] [] := by first | (simp [entryFrame, mkF, argsToLocals, Value.category]; done) | rfl
def Q_Term_new_0 (Z : State) (b3 : Addr) (el : Addr) (ela : Addr) (kel : ClassId) (h0 : Heap) (n0 : Nat) (v : Option Value) (h : Heap) (L : List Loc) : Prop := v = none ∧ Fr n0 L ∧ Keep h0 h [b3] ∧ Fld Z h b3 xs6 "depth" "I" (.int (1 : Int32)) ∧ Fld Z h b3 xs9 "index" "I" (.int (0 : Int32)) ∧ Fld Z h b3 xs9 xs45 "Z" (.int (0 : Int32)) ∧ Fld Z h b3 xs9 "name" xs40 .null
set_option maxRecDepth 65536 in
set_option maxHeartbeats 40000000 in
theorem rm_Term_new_0 (l : Launch) (Z : State) (a0 : Array Value) (hw : ∀ d ∈ tables_1, d.before a0 Z = true) (ws : List Jvm.Cond) (b3 : Addr) (el : Addr) (ela : Addr) (kel : ClassId) (h0 : Heap) (n0 : Nat) (Z0 : n0 ≤ h0.size) (Z_E_el : Exa Z Z.heap el xs18) (Z_F_elements_el : Fld Z Z.heap el xs18 "elements" xs35 (.ref ela)) (O0 : Old Z n0 h0) (Z_A_ela : Arv Z Z.heap ela kel (.object xs41) (0 : Int32) [] .null) (E_b3 : Exa Z h0 b3 xs9) (F_depth_b3 : Fld Z h0 b3 xs6 "depth" "I" (.int (0 : Int32))) (g_b3 : n0 ≤ b3) (F_index_b3 : Fld Z h0 b3 xs9 "index" "I" (.int (0 : Int32))) (F_locationCounter_b3 : Fld Z h0 b3 xs9 xs45 "Z" (.int (0 : Int32))) (F_name_b3 : Fld Z h0 b3 xs9 "name" xs40 .null) :
    MetFree l xm10 (head1 (Jvm.Cond.code xm10 prog_110_method_1_code 2 none :: ws) xr7) (fun a U => a = #[(.ref b3), (.ref el)] ∧ Z.Warmed39 U.vm ∧ U.heap = h0) (fun _ _ _ _ _ => True) (fun _ U o U' => ∃ v L, o = .returned v ∧ Q_Term_new_0 Z b3 el ela kel h0 n0 v U'.heap L ∧ FrameEnd U o U' L xr7.cells xr7.slots) := by
  refine MetFree.of_bodySF (plainFor_of_name pn_5) hisR ?_
  intro p e s m args below meth c s₁ Bd hml0 hP hK
  obtain ⟨rfl, hZ, hh⟩ := hP
  have hx := Bd.exec
  have hby := Bd.bytes
  have hlk : meth.locks = false := BodyLoose.notSynchronized Bd
  have hml : c.maxLocals = 2 := hml0
  have hown : s.vm.findClass xs13 = some m.cls := findClass_of_methodNamed Bd.named
  have hnm := (name_of_methodNamed Bd.named Bd.method).1
  have X0 : Stand p l e xr7 s m #[(.ref b3), (.ref el)] below meth c s₁ [] 0 0 := Stand.of_body Bd
  have e0 : s₁.heap = h0 := by rw [← hh, Bd.state]; rfl
  have N0 := Fr.nil n0
  show Go p e below s (Q_Term_new_0 Z b3 el ela kel h0 n0) xr7.cells xr7.slots s₁ (entryFrame m #[(.ref b3), (.ref el)] 2)
  refine Go.cast (ef_Term_new_0 m b3 el) ?_
  show Go p e below s _ _ _ s₁ (mkF m 0 #[.val (.ref b3), .val (.ref el)] [])
  refine Go.step (fun _ k => XS.aloadN X0.here hx rfl (hb hby d2_0) rfl rfl (XS.aloadN X0.here hx rfl (hb hby d2_1) rfl rfl k)) ?_
  show Go p e below s _ _ _ s₁ (mkF m 2 #[.val (.ref b3), .val (.ref el)] [(.ref el), (.ref b3)])
  obtain ⟨_, _, ⟨T75, L75, k75, n75⟩, -, X75, ⟨Lc75, hQ75, l75, y75, z75⟩, st75⟩ := X0.specialBack hx (y := xm15) rfl hown (mvT hZ (tw27 hw)) (mvT hZ (tw28 hw)) (mvT hZ (tw31 hw)) (by decide) (backOf (W := 0) (rm_Expression_new_0 l Z a0 hw [] b3 el ela kel h0 n0 Z0 Z_E_el Z_F_elements_el O0 Z_A_ela E_b3 F_depth_b3 g_b3 F_index_b3 F_locationCounter_b3 F_name_b3) hZ (tw31 hw) (tw30 hw) (by decide) (by decide)) (g := (mkF m 2 #[.val (.ref b3), .val (.ref el)] [(.ref el), (.ref b3)])) rfl (by rw [hml]; rfl) (Steps.refl _) (a := b3) (argsL := [(.ref el)]) (rest := []) (lenOf pd_5 rfl) rfl (by show 2 * 0 + _ ≤ _; exact Nat.le_of_eq rfl) (hb hby d2_2) (fun _ _ => ⟨rfl, e0, (by decide : 0 + 1 ≤ _), (by decide : 0 + 4 ≤ _)⟩)
  dsimp only [Pt.U, Pt.locs, Pt.cells, Pt.slots] at X75 l75 y75 z75 st75 hQ75
  subst l75 y75 z75
  obtain ⟨rfl, N75q, K75, P75_0, P75_1, P75_2, P75_3⟩ := hQ75
  have N76 := Fr.app N0 N75q
  refine Go.step (fun _ k => st75.trans k) ?_
  show Go p e below s _ _ _ T75 (mkF m 5 #[.val (.ref b3), .val (.ref el)] [])
  have f77 := ((Keep.refl h0 [b3]).trans K75 (allS (Or.inl (List.mem_of_getElem? (i := 0) rfl)) all0))
  have f78 := (Nat.le_trans (Nat.le_refl _) K75.1)
  exact Go.retV X75 hx hlk Bd.returns (hb hby d2_5) rfl ⟨rfl, N76, f77, P75_0, P75_1, P75_2, P75_3⟩ (by decide) (by decide)

theorem ef_Variable_new_0 (m : MethodId) (x0 : Addr) (x1 : Addr) (x2 : Int32) (x3 : Int32) : entryFrame m #[(.ref x0), (.ref x1), (.int x2), (.int x3)] 4 = mkF m 0 #[.val (.ref x0), .val (.ref x1), .val (.int x2), .val (.int x3)] [] := by first | (simp [entryFrame, mkF, argsToLocals, Value.category]; done) | rfl
def Q_Variable_new_0 (Z : State) (b3 : Addr) (a8 : Addr) (f0 : Int32) (el : Addr) (ela : Addr) (kel : ClassId) (h0 : Heap) (n0 : Nat) (v : Option Value) (h : Heap) (L : List Loc) : Prop := v = none ∧ Fr n0 L ∧ Keep h0 h [b3] ∧ Fld Z h b3 xs6 "depth" "I" (.int (1 : Int32)) ∧ Fld Z h b3 xs9 "index" "I" (.int (0 : Int32)) ∧ Fld Z h b3 xs9 xs45 "Z" (.int (nar .boolean f0)) ∧ Fld Z h b3 xs9 "name" xs40 (.ref a8)
set_option maxRecDepth 65536 in
set_option maxHeartbeats 40000000 in
theorem rm_Variable_new_0 (l : Launch) (Z : State) (a0 : Array Value) (hw : ∀ d ∈ tables_1, d.before a0 Z = true) (ws : List Jvm.Cond) (b3 : Addr) (a8 : Addr) (f0 : Int32) (el : Addr) (ela : Addr) (kel : ClassId) (h0 : Heap) (n0 : Nat) (Z0 : n0 ≤ h0.size) (Z_S_EMPTY_LIST : Sta Z Z.heap xs20 "EMPTY_LIST" xs16 (.ref el)) (O0 : Old Z n0 h0) (Z_E_el : Exa Z Z.heap el xs18) (Z_F_elements_el : Fld Z Z.heap el xs18 "elements" xs35 (.ref ela)) (Z_A_ela : Arv Z Z.heap ela kel (.object xs41) (0 : Int32) [] .null) (E_b3 : Exa Z h0 b3 xs9) (F_depth_b3 : Fld Z h0 b3 xs6 "depth" "I" (.int (0 : Int32))) (g_b3 : n0 ≤ b3) (F_index_b3 : Fld Z h0 b3 xs9 "index" "I" (.int (0 : Int32))) (F_locationCounter_b3 : Fld Z h0 b3 xs9 xs45 "Z" (.int (0 : Int32))) (F_name_b3 : Fld Z h0 b3 xs9 "name" xs40 .null) :
    MetFree l xm16 (head1 (Jvm.Cond.code xm16 prog_117_method_1_code 4 none :: ws) xr8) (fun a U => a = #[(.ref b3), (.ref a8), (.int f0), (.int (0 : Int32))] ∧ Z.Warmed39 U.vm ∧ U.heap = h0) (fun _ _ _ _ _ => True) (fun _ U o U' => ∃ v L, o = .returned v ∧ Q_Variable_new_0 Z b3 a8 f0 el ela kel h0 n0 v U'.heap L ∧ FrameEnd U o U' L xr8.cells xr8.slots) := by
  refine MetFree.of_bodySF (plainFor_of_name pn_6) hisR ?_
  intro p e s m args below meth c s₁ Bd hml0 hP hK
  obtain ⟨rfl, hZ, hh⟩ := hP
  have hx := Bd.exec
  have hby := Bd.bytes
  have hlk : meth.locks = false := BodyLoose.notSynchronized Bd
  have hml : c.maxLocals = 4 := hml0
  have hown : s.vm.findClass xs9 = some m.cls := findClass_of_methodNamed Bd.named
  have hnm := (name_of_methodNamed Bd.named Bd.method).1
  have X0 : Stand p l e xr8 s m #[(.ref b3), (.ref a8), (.int f0), (.int (0 : Int32))] below meth c s₁ [] 0 0 := Stand.of_body Bd
  have e0 : s₁.heap = h0 := by rw [← hh, Bd.state]; rfl
  have N0 := Fr.nil n0
  show Go p e below s (Q_Variable_new_0 Z b3 a8 f0 el ela kel h0 n0) xr8.cells xr8.slots s₁ (entryFrame m #[(.ref b3), (.ref a8), (.int f0), (.int (0 : Int32))] 4)
  refine Go.cast (ef_Variable_new_0 m b3 a8 f0 (0 : Int32)) ?_
  show Go p e below s _ _ _ s₁ (mkF m 0 #[.val (.ref b3), .val (.ref a8), .val (.int f0), .val (.int (0 : Int32))] [])
  refine Go.step (fun _ k => XS.aloadN X0.here hx rfl (hb hby d0_0) rfl rfl k) ?_
  show Go p e below s _ _ _ s₁ (mkF m 1 #[.val (.ref b3), .val (.ref a8), .val (.int f0), .val (.int (0 : Int32))] [(.ref b3)])
  obtain ⟨_, _, ⟨T11, L11, k11, n11⟩, -, X11, ⟨Lc11, hQ11, l11, y11, z11⟩, st11⟩ := Jvm.LawKit.callS X0 hx (y := xm31) hown (mvT hZ (tw16 hw)) (mvT hZ (tw17 hw)) (mvT hZ (tw18 hw)) (mvT hZ (tw19 hw)) (by decide) (backOf (W := 1) (rm_List_of_0 l Z a0 hw [] el h0 n0 Z0 Z_S_EMPTY_LIST O0) hZ (tw19 hw) (tw18 hw) (by decide) (by decide)) (g := (mkF m 1 #[.val (.ref b3), .val (.ref a8), .val (.int f0), .val (.int (0 : Int32))] [(.ref b3)])) rfl (by rw [hml]; rfl) (argsL := []) (rest := [(.ref b3)]) (lenOf pd_0 rfl) rfl (by show 2 * 0 + _ ≤ _; exact Nat.le_of_eq rfl) (hb hby d0_1) (fun _ _ => ⟨rfl, e0, (by decide : 0 + 0 ≤ _), (by decide : 0 + 0 ≤ _)⟩)
  dsimp only [Pt.U, Pt.locs, Pt.cells, Pt.slots] at X11 l11 y11 z11 st11 hQ11
  subst l11 y11 z11
  obtain ⟨rfl, N11q, eq11⟩ := hQ11
  have N12 := Fr.app N0 N11q
  refine Go.step (fun _ k => st11 _ k) ?_
  show Go p e below s _ _ _ T11 (mkF m 4 #[.val (.ref b3), .val (.ref a8), .val (.int f0), .val (.int (0 : Int32))] [(.ref el), (.ref b3)])
  obtain ⟨_, _, ⟨T79, L79, k79, n79⟩, -, X79, ⟨Lc79, hQ79, l79, y79, z79⟩, st79⟩ := X11.specialBack hx (y := xm10) rfl hown (mvT hZ (tw22 hw)) (mvT hZ (tw23 hw)) (mvT hZ (tw26 hw)) (by decide) (backOf (W := 0) (rm_Term_new_0 l Z a0 hw [] b3 el ela kel h0 n0 Z0 Z_E_el Z_F_elements_el O0 Z_A_ela E_b3 F_depth_b3 g_b3 F_index_b3 F_locationCounter_b3 F_name_b3) hZ (tw26 hw) (tw25 hw) (by decide) (by decide)) (g := (mkF m 4 #[.val (.ref b3), .val (.ref a8), .val (.int f0), .val (.int (0 : Int32))] [(.ref el), (.ref b3)])) rfl (by rw [hml]; rfl) (Steps.refl _) (a := b3) (argsL := [(.ref el)]) (rest := []) (lenOf pd_5 rfl) rfl (by show 2 * 0 + _ ≤ _; exact Nat.le_of_eq rfl) (hb hby d0_4) (fun _ _ => ⟨rfl, eq11, (by decide : 0 + 1 ≤ _), (by decide : 0 + 4 ≤ _)⟩)
  dsimp only [Pt.U, Pt.locs, Pt.cells, Pt.slots] at X79 l79 y79 z79 st79 hQ79
  subst l79 y79 z79
  obtain ⟨rfl, N79q, K79, P79_0, P79_1, P79_2, P79_3⟩ := hQ79
  have N80 := Fr.app N12 N79q
  refine Go.step (fun _ k => st79.trans (XS.aloadN X79.here hx rfl (hb hby d0_7) rfl rfl (XS.aloadN X79.here hx rfl (hb hby d0_8) rfl rfl k))) ?_
  show Go p e below s _ _ _ T79 (mkF m 9 #[.val (.ref b3), .val (.ref a8), .val (.int f0), .val (.int (0 : Int32))] [(.ref a8), (.ref b3)])
  have f81 := (E_b3.keep K79)
  obtain ⟨T82, h82, X82, e82, W82, st82⟩ := putF X79 hx hZ hown (host := "") (Or.inl (tw81 hw)) Via.refl rfl P79_3 f81 (Or.inr ⟨(tw82 hw), rfl, hnm⟩) (tw3 hw) (ty := (.object xs43)) (by decide) rfl rfl (g := (mkF m 9 #[.val (.ref b3), .val (.ref a8), .val (.int f0), .val (.int (0 : Int32))] [(.ref a8), (.ref b3)])) rfl rfl (hb hby d0_9)
  have f83 := P79_3.same W82
  have N84 := Fr.snoc X82 N80 g_b3
  refine Go.step (fun _ k => st82 _ (XS.aloadN X82.here hx rfl (hb hby d0_12) rfl rfl (XS.iloadN X82.here hx rfl (hb hby d0_13) rfl k))) ?_
  show Go p e below s _ _ _ T82 (mkF m 14 #[.val (.ref b3), .val (.ref a8), .val (.int f0), .val (.int (0 : Int32))] [(.int f0), (.ref b3)])
  have f85 := (P79_2.other W82 (Or.inr (slot_ne (Or.inr (tw84 hw)) (Or.inr (tw82 hw)) (by decide) (t := .boolean) (t' := (.object xs43)) (by decide) (by decide))))
  have f86 := (f81.wr W82)
  obtain ⟨T87, h87, X87, e87, W87, st87⟩ := putFN X82 hx hZ hown (tw83 hw) Via.refl e82 f85 f86 (Or.inr ⟨(tw84 hw), rfl, hnm⟩) (tw3 hw) (ty := .boolean) (v' := (.int (nar .boolean f0))) (by decide) rfl (fits_nar_bool _) (g := (mkF m 14 #[.val (.ref b3), .val (.ref a8), .val (.int f0), .val (.int (0 : Int32))] [(.int f0), (.ref b3)])) rfl rfl (hb hby d0_14)
  have f88 := f85.same W87
  have N89 := Fr.snoc X87 N84 g_b3
  refine Go.step (fun _ k => st87 _ (XS.aloadN X87.here hx rfl (hb hby d0_17) rfl rfl (XS.iloadN X87.here hx rfl (hb hby d0_18) rfl k))) ?_
  show Go p e below s _ _ _ T87 (mkF m 19 #[.val (.ref b3), .val (.ref a8), .val (.int f0), .val (.int (0 : Int32))] [(.int (0 : Int32)), (.ref b3)])
  have f90 := ((P79_1.other W82 (Or.inr (slot_ne (Or.inr (tw86 hw)) (Or.inr (tw82 hw)) (by decide) (t := .int) (t' := (.object xs43)) (by decide) (by decide)))).other W87 (Or.inr (slot_ne (Or.inr (tw86 hw)) (Or.inr (tw84 hw)) (by decide) (t := .int) (t' := .boolean) (by decide) (by decide))))
  have f91 := (f86.wr W87)
  obtain ⟨T92, h92, X92, e92, W92, st92⟩ := putF X87 hx hZ hown (host := "") (Or.inl (tw85 hw)) Via.refl e87 f90 f91 (Or.inr ⟨(tw86 hw), rfl, hnm⟩) (tw3 hw) (ty := .int) (by decide) rfl rfl (g := (mkF m 19 #[.val (.ref b3), .val (.ref a8), .val (.int f0), .val (.int (0 : Int32))] [(.int (0 : Int32)), (.ref b3)])) rfl rfl (hb hby d0_19)
  have f93 := f90.same W92
  have N94 := Fr.snoc X92 N89 g_b3
  refine Go.step (fun _ k => st92 _ k) ?_
  show Go p e below s _ _ _ T92 (mkF m 22 #[.val (.ref b3), .val (.ref a8), .val (.int f0), .val (.int (0 : Int32))] [])
  have f95 := (((((Keep.refl h0 [b3]).trans K79 (allS (Or.inl (List.mem_of_getElem? (i := 0) rfl)) all0)).wr W82 (Or.inl (List.mem_of_getElem? (i := 0) rfl))).wr W87 (Or.inl (List.mem_of_getElem? (i := 0) rfl))).wr W92 (Or.inl (List.mem_of_getElem? (i := 0) rfl)))
  have f96 := (((P79_0.other W82 (Or.inr (slot_ne (Or.inr (tw80 hw)) (Or.inr (tw82 hw)) (by decide) (t := .int) (t' := (.object xs43)) (by decide) (by decide)))).other W87 (Or.inr (slot_ne (Or.inr (tw80 hw)) (Or.inr (tw84 hw)) (by decide) (t := .int) (t' := .boolean) (by decide) (by decide)))).other W92 (Or.inr (slot_ne (Or.inr (tw80 hw)) (Or.inr (tw86 hw)) (by decide) (t := .int) (t' := .int) (by decide) (by decide))))
  have f97 := (f88.other W92 (Or.inr (slot_ne (Or.inr (tw84 hw)) (Or.inr (tw86 hw)) (by decide) (t := .boolean) (t' := .int) (by decide) (by decide))))
  have f98 := ((f83.other W87 (Or.inr (slot_ne (Or.inr (tw82 hw)) (Or.inr (tw84 hw)) (by decide) (t := (.object xs43)) (t' := .boolean) (by decide) (by decide)))).other W92 (Or.inr (slot_ne (Or.inr (tw82 hw)) (Or.inr (tw86 hw)) (by decide) (t := (.object xs43)) (t' := .int) (by decide) (by decide))))
  have f99 := (Nat.le_trans (Nat.le_trans (Nat.le_trans (Nat.le_trans (Nat.le_refl _) K79.1) (Keep.of_wr W82).1) (Keep.of_wr W87).1) (Keep.of_wr W92).1)
  exact Go.retV X92 hx hlk Bd.returns (hb hby d0_22) e92 ⟨rfl, N94, f95, f96, f93, f97, f98⟩ (by decide) (by decide)

theorem ef_Variable_new_1 (m : MethodId) (x0 : Addr) (x1 : Addr) (x2 : Int32) (x3 : Int32) : entryFrame m #[(.ref x0), (.ref x1), (.int x2), (.int x3)] 4 = mkF m 0 #[.val (.ref x0), .val (.ref x1), .val (.int x2), .val (.int x3)] [] := by first | (simp [entryFrame, mkF, argsToLocals, Value.category]; done) | rfl
def Q_Variable_new_1 (Z : State) (b116 : Addr) (a121 : Addr) (f1 : Int32) (el : Addr) (ela : Addr) (kel : ClassId) (h0 : Heap) (n0 : Nat) (v : Option Value) (h : Heap) (L : List Loc) : Prop := v = none ∧ Fr n0 L ∧ Keep h0 h [b116] ∧ Fld Z h b116 xs6 "depth" "I" (.int (1 : Int32)) ∧ Fld Z h b116 xs9 "index" "I" (.int (1 : Int32)) ∧ Fld Z h b116 xs9 xs45 "Z" (.int (nar .boolean f1)) ∧ Fld Z h b116 xs9 "name" xs40 (.ref a121)
set_option maxRecDepth 65536 in
set_option maxHeartbeats 40000000 in
theorem rm_Variable_new_1 (l : Launch) (Z : State) (a0 : Array Value) (hw : ∀ d ∈ tables_1, d.before a0 Z = true) (ws : List Jvm.Cond) (b116 : Addr) (a121 : Addr) (f1 : Int32) (el : Addr) (ela : Addr) (kel : ClassId) (h0 : Heap) (n0 : Nat) (Z0 : n0 ≤ h0.size) (Z_S_EMPTY_LIST : Sta Z Z.heap xs20 "EMPTY_LIST" xs16 (.ref el)) (O0 : Old Z n0 h0) (E_b116 : Exa Z h0 b116 xs9) (F_depth_b116 : Fld Z h0 b116 xs6 "depth" "I" (.int (0 : Int32))) (F_index_b116 : Fld Z h0 b116 xs9 "index" "I" (.int (0 : Int32))) (F_locationCounter_b116 : Fld Z h0 b116 xs9 xs45 "Z" (.int (0 : Int32))) (F_name_b116 : Fld Z h0 b116 xs9 "name" xs40 .null) (Z_E_el : Exa Z Z.heap el xs18) (Z_F_elements_el : Fld Z Z.heap el xs18 "elements" xs35 (.ref ela)) (Z_A_ela : Arv Z Z.heap ela kel (.object xs41) (0 : Int32) [] .null) (g_b116 : n0 ≤ b116) :
    MetFree l xm16 (head1 (Jvm.Cond.code xm16 prog_117_method_1_code 4 none :: ws) xr8) (fun a U => a = #[(.ref b116), (.ref a121), (.int f1), (.int (1 : Int32))] ∧ Z.Warmed39 U.vm ∧ U.heap = h0) (fun _ _ _ _ _ => True) (fun _ U o U' => ∃ v L, o = .returned v ∧ Q_Variable_new_1 Z b116 a121 f1 el ela kel h0 n0 v U'.heap L ∧ FrameEnd U o U' L xr8.cells xr8.slots) := by
  refine MetFree.of_bodySF (plainFor_of_name pn_6) hisR ?_
  intro p e s m args below meth c s₁ Bd hml0 hP hK
  obtain ⟨rfl, hZ, hh⟩ := hP
  have hx := Bd.exec
  have hby := Bd.bytes
  have hlk : meth.locks = false := BodyLoose.notSynchronized Bd
  have hml : c.maxLocals = 4 := hml0
  have hown : s.vm.findClass xs9 = some m.cls := findClass_of_methodNamed Bd.named
  have hnm := (name_of_methodNamed Bd.named Bd.method).1
  have X0 : Stand p l e xr8 s m #[(.ref b116), (.ref a121), (.int f1), (.int (1 : Int32))] below meth c s₁ [] 0 0 := Stand.of_body Bd
  have e0 : s₁.heap = h0 := by rw [← hh, Bd.state]; rfl
  have N0 := Fr.nil n0
  show Go p e below s (Q_Variable_new_1 Z b116 a121 f1 el ela kel h0 n0) xr8.cells xr8.slots s₁ (entryFrame m #[(.ref b116), (.ref a121), (.int f1), (.int (1 : Int32))] 4)
  refine Go.cast (ef_Variable_new_1 m b116 a121 f1 (1 : Int32)) ?_
  show Go p e below s _ _ _ s₁ (mkF m 0 #[.val (.ref b116), .val (.ref a121), .val (.int f1), .val (.int (1 : Int32))] [])
  refine Go.step (fun _ k => XS.aloadN X0.here hx rfl (hb hby d0_0) rfl rfl k) ?_
  show Go p e below s _ _ _ s₁ (mkF m 1 #[.val (.ref b116), .val (.ref a121), .val (.int f1), .val (.int (1 : Int32))] [(.ref b116)])
  obtain ⟨_, _, ⟨T123, L123, k123, n123⟩, -, X123, ⟨Lc123, hQ123, l123, y123, z123⟩, st123⟩ := Jvm.LawKit.callS X0 hx (y := xm31) hown (mvT hZ (tw16 hw)) (mvT hZ (tw17 hw)) (mvT hZ (tw18 hw)) (mvT hZ (tw19 hw)) (by decide) (backOf (W := 1) (rm_List_of_0 l Z a0 hw [] el h0 n0 Z0 Z_S_EMPTY_LIST O0) hZ (tw19 hw) (tw18 hw) (by decide) (by decide)) (g := (mkF m 1 #[.val (.ref b116), .val (.ref a121), .val (.int f1), .val (.int (1 : Int32))] [(.ref b116)])) rfl (by rw [hml]; rfl) (argsL := []) (rest := [(.ref b116)]) (lenOf pd_0 rfl) rfl (by show 2 * 0 + _ ≤ _; exact Nat.le_of_eq rfl) (hb hby d0_1) (fun _ _ => ⟨rfl, e0, (by decide : 0 + 0 ≤ _), (by decide : 0 + 0 ≤ _)⟩)
  dsimp only [Pt.U, Pt.locs, Pt.cells, Pt.slots] at X123 l123 y123 z123 st123 hQ123
  subst l123 y123 z123
  obtain ⟨rfl, N123q, eq123⟩ := hQ123
  have N124 := Fr.app N0 N123q
  refine Go.step (fun _ k => st123 _ k) ?_
  show Go p e below s _ _ _ T123 (mkF m 4 #[.val (.ref b116), .val (.ref a121), .val (.int f1), .val (.int (1 : Int32))] [(.ref el), (.ref b116)])
  obtain ⟨_, _, ⟨T127, L127, k127, n127⟩, -, X127, ⟨Lc127, hQ127, l127, y127, z127⟩, st127⟩ := X123.specialBack hx (y := xm10) rfl hown (mvT hZ (tw22 hw)) (mvT hZ (tw23 hw)) (mvT hZ (tw26 hw)) (by decide) (backOf (W := 0) (rm_Term_new_0 l Z a0 hw [] b116 el ela kel h0 n0 Z0 Z_E_el Z_F_elements_el O0 Z_A_ela E_b116 F_depth_b116 g_b116 F_index_b116 F_locationCounter_b116 F_name_b116) hZ (tw26 hw) (tw25 hw) (by decide) (by decide)) (g := (mkF m 4 #[.val (.ref b116), .val (.ref a121), .val (.int f1), .val (.int (1 : Int32))] [(.ref el), (.ref b116)])) rfl (by rw [hml]; rfl) (Steps.refl _) (a := b116) (argsL := [(.ref el)]) (rest := []) (lenOf pd_5 rfl) rfl (by show 2 * 0 + _ ≤ _; exact Nat.le_of_eq rfl) (hb hby d0_4) (fun _ _ => ⟨rfl, eq123, (by decide : 0 + 1 ≤ _), (by decide : 0 + 4 ≤ _)⟩)
  dsimp only [Pt.U, Pt.locs, Pt.cells, Pt.slots] at X127 l127 y127 z127 st127 hQ127
  subst l127 y127 z127
  obtain ⟨rfl, N127q, K127, P127_0, P127_1, P127_2, P127_3⟩ := hQ127
  have N128 := Fr.app N124 N127q
  refine Go.step (fun _ k => st127.trans (XS.aloadN X127.here hx rfl (hb hby d0_7) rfl rfl (XS.aloadN X127.here hx rfl (hb hby d0_8) rfl rfl k))) ?_
  show Go p e below s _ _ _ T127 (mkF m 9 #[.val (.ref b116), .val (.ref a121), .val (.int f1), .val (.int (1 : Int32))] [(.ref a121), (.ref b116)])
  have f129 := (E_b116.keep K127)
  obtain ⟨T130, h130, X130, e130, W130, st130⟩ := putF X127 hx hZ hown (host := "") (Or.inl (tw81 hw)) Via.refl rfl P127_3 f129 (Or.inr ⟨(tw82 hw), rfl, hnm⟩) (tw3 hw) (ty := (.object xs43)) (by decide) rfl rfl (g := (mkF m 9 #[.val (.ref b116), .val (.ref a121), .val (.int f1), .val (.int (1 : Int32))] [(.ref a121), (.ref b116)])) rfl rfl (hb hby d0_9)
  have f131 := P127_3.same W130
  have N132 := Fr.snoc X130 N128 g_b116
  refine Go.step (fun _ k => st130 _ (XS.aloadN X130.here hx rfl (hb hby d0_12) rfl rfl (XS.iloadN X130.here hx rfl (hb hby d0_13) rfl k))) ?_
  show Go p e below s _ _ _ T130 (mkF m 14 #[.val (.ref b116), .val (.ref a121), .val (.int f1), .val (.int (1 : Int32))] [(.int f1), (.ref b116)])
  have f133 := (P127_2.other W130 (Or.inr (slot_ne (Or.inr (tw84 hw)) (Or.inr (tw82 hw)) (by decide) (t := .boolean) (t' := (.object xs43)) (by decide) (by decide))))
  have f134 := (f129.wr W130)
  obtain ⟨T135, h135, X135, e135, W135, st135⟩ := putFN X130 hx hZ hown (tw83 hw) Via.refl e130 f133 f134 (Or.inr ⟨(tw84 hw), rfl, hnm⟩) (tw3 hw) (ty := .boolean) (v' := (.int (nar .boolean f1))) (by decide) rfl (fits_nar_bool _) (g := (mkF m 14 #[.val (.ref b116), .val (.ref a121), .val (.int f1), .val (.int (1 : Int32))] [(.int f1), (.ref b116)])) rfl rfl (hb hby d0_14)
  have f136 := f133.same W135
  have N137 := Fr.snoc X135 N132 g_b116
  refine Go.step (fun _ k => st135 _ (XS.aloadN X135.here hx rfl (hb hby d0_17) rfl rfl (XS.iloadN X135.here hx rfl (hb hby d0_18) rfl k))) ?_
  show Go p e below s _ _ _ T135 (mkF m 19 #[.val (.ref b116), .val (.ref a121), .val (.int f1), .val (.int (1 : Int32))] [(.int (1 : Int32)), (.ref b116)])
  have f138 := ((P127_1.other W130 (Or.inr (slot_ne (Or.inr (tw86 hw)) (Or.inr (tw82 hw)) (by decide) (t := .int) (t' := (.object xs43)) (by decide) (by decide)))).other W135 (Or.inr (slot_ne (Or.inr (tw86 hw)) (Or.inr (tw84 hw)) (by decide) (t := .int) (t' := .boolean) (by decide) (by decide))))
  have f139 := (f134.wr W135)
  obtain ⟨T140, h140, X140, e140, W140, st140⟩ := putF X135 hx hZ hown (host := "") (Or.inl (tw85 hw)) Via.refl e135 f138 f139 (Or.inr ⟨(tw86 hw), rfl, hnm⟩) (tw3 hw) (ty := .int) (by decide) rfl rfl (g := (mkF m 19 #[.val (.ref b116), .val (.ref a121), .val (.int f1), .val (.int (1 : Int32))] [(.int (1 : Int32)), (.ref b116)])) rfl rfl (hb hby d0_19)
  have f141 := f138.same W140
  have N142 := Fr.snoc X140 N137 g_b116
  refine Go.step (fun _ k => st140 _ k) ?_
  show Go p e below s _ _ _ T140 (mkF m 22 #[.val (.ref b116), .val (.ref a121), .val (.int f1), .val (.int (1 : Int32))] [])
  have f143 := (((((Keep.refl h0 [b116]).trans K127 (allS (Or.inl (List.mem_of_getElem? (i := 0) rfl)) all0)).wr W130 (Or.inl (List.mem_of_getElem? (i := 0) rfl))).wr W135 (Or.inl (List.mem_of_getElem? (i := 0) rfl))).wr W140 (Or.inl (List.mem_of_getElem? (i := 0) rfl)))
  have f144 := (((P127_0.other W130 (Or.inr (slot_ne (Or.inr (tw80 hw)) (Or.inr (tw82 hw)) (by decide) (t := .int) (t' := (.object xs43)) (by decide) (by decide)))).other W135 (Or.inr (slot_ne (Or.inr (tw80 hw)) (Or.inr (tw84 hw)) (by decide) (t := .int) (t' := .boolean) (by decide) (by decide)))).other W140 (Or.inr (slot_ne (Or.inr (tw80 hw)) (Or.inr (tw86 hw)) (by decide) (t := .int) (t' := .int) (by decide) (by decide))))
  have f145 := (f136.other W140 (Or.inr (slot_ne (Or.inr (tw84 hw)) (Or.inr (tw86 hw)) (by decide) (t := .boolean) (t' := .int) (by decide) (by decide))))
  have f146 := ((f131.other W135 (Or.inr (slot_ne (Or.inr (tw82 hw)) (Or.inr (tw84 hw)) (by decide) (t := (.object xs43)) (t' := .boolean) (by decide) (by decide)))).other W140 (Or.inr (slot_ne (Or.inr (tw82 hw)) (Or.inr (tw86 hw)) (by decide) (t := (.object xs43)) (t' := .int) (by decide) (by decide))))
  have f147 := (Nat.le_trans (Nat.le_trans (Nat.le_trans (Nat.le_trans (Nat.le_refl _) K127.1) (Keep.of_wr W130).1) (Keep.of_wr W135).1) (Keep.of_wr W140).1)
  exact Go.retV X140 hx hlk Bd.returns (hb hby d0_22) e140 ⟨rfl, N142, f143, f144, f141, f145, f146⟩ (by decide) (by decide)

theorem ef_Variable_new_2 (m : MethodId) (x0 : Addr) (x1 : Addr) (x2 : Int32) (x3 : Int32) : entryFrame m #[(.ref x0), (.ref x1), (.int x2), (.int x3)] 4 = mkF m 0 #[.val (.ref x0), .val (.ref x1), .val (.int x2), .val (.int x3)] [] := by first | (simp [entryFrame, mkF, argsToLocals, Value.category]; done) | rfl
def Q_Variable_new_2 (Z : State) (b163 : Addr) (a168 : Addr) (f2 : Int32) (el : Addr) (ela : Addr) (kel : ClassId) (h0 : Heap) (n0 : Nat) (v : Option Value) (h : Heap) (L : List Loc) : Prop := v = none ∧ Fr n0 L ∧ Keep h0 h [b163] ∧ Fld Z h b163 xs6 "depth" "I" (.int (1 : Int32)) ∧ Fld Z h b163 xs9 "index" "I" (.int (2 : Int32)) ∧ Fld Z h b163 xs9 xs45 "Z" (.int (nar .boolean f2)) ∧ Fld Z h b163 xs9 "name" xs40 (.ref a168)
set_option maxRecDepth 65536 in
set_option maxHeartbeats 40000000 in
theorem rm_Variable_new_2 (l : Launch) (Z : State) (a0 : Array Value) (hw : ∀ d ∈ tables_1, d.before a0 Z = true) (ws : List Jvm.Cond) (b163 : Addr) (a168 : Addr) (f2 : Int32) (el : Addr) (ela : Addr) (kel : ClassId) (h0 : Heap) (n0 : Nat) (Z0 : n0 ≤ h0.size) (Z_S_EMPTY_LIST : Sta Z Z.heap xs20 "EMPTY_LIST" xs16 (.ref el)) (O0 : Old Z n0 h0) (E_b163 : Exa Z h0 b163 xs9) (F_depth_b163 : Fld Z h0 b163 xs6 "depth" "I" (.int (0 : Int32))) (F_index_b163 : Fld Z h0 b163 xs9 "index" "I" (.int (0 : Int32))) (F_locationCounter_b163 : Fld Z h0 b163 xs9 xs45 "Z" (.int (0 : Int32))) (F_name_b163 : Fld Z h0 b163 xs9 "name" xs40 .null) (Z_E_el : Exa Z Z.heap el xs18) (Z_F_elements_el : Fld Z Z.heap el xs18 "elements" xs35 (.ref ela)) (Z_A_ela : Arv Z Z.heap ela kel (.object xs41) (0 : Int32) [] .null) (g_b163 : n0 ≤ b163) :
    MetFree l xm16 (head1 (Jvm.Cond.code xm16 prog_117_method_1_code 4 none :: ws) xr8) (fun a U => a = #[(.ref b163), (.ref a168), (.int f2), (.int (2 : Int32))] ∧ Z.Warmed39 U.vm ∧ U.heap = h0) (fun _ _ _ _ _ => True) (fun _ U o U' => ∃ v L, o = .returned v ∧ Q_Variable_new_2 Z b163 a168 f2 el ela kel h0 n0 v U'.heap L ∧ FrameEnd U o U' L xr8.cells xr8.slots) := by
  refine MetFree.of_bodySF (plainFor_of_name pn_6) hisR ?_
  intro p e s m args below meth c s₁ Bd hml0 hP hK
  obtain ⟨rfl, hZ, hh⟩ := hP
  have hx := Bd.exec
  have hby := Bd.bytes
  have hlk : meth.locks = false := BodyLoose.notSynchronized Bd
  have hml : c.maxLocals = 4 := hml0
  have hown : s.vm.findClass xs9 = some m.cls := findClass_of_methodNamed Bd.named
  have hnm := (name_of_methodNamed Bd.named Bd.method).1
  have X0 : Stand p l e xr8 s m #[(.ref b163), (.ref a168), (.int f2), (.int (2 : Int32))] below meth c s₁ [] 0 0 := Stand.of_body Bd
  have e0 : s₁.heap = h0 := by rw [← hh, Bd.state]; rfl
  have N0 := Fr.nil n0
  show Go p e below s (Q_Variable_new_2 Z b163 a168 f2 el ela kel h0 n0) xr8.cells xr8.slots s₁ (entryFrame m #[(.ref b163), (.ref a168), (.int f2), (.int (2 : Int32))] 4)
  refine Go.cast (ef_Variable_new_2 m b163 a168 f2 (2 : Int32)) ?_
  show Go p e below s _ _ _ s₁ (mkF m 0 #[.val (.ref b163), .val (.ref a168), .val (.int f2), .val (.int (2 : Int32))] [])
  refine Go.step (fun _ k => XS.aloadN X0.here hx rfl (hb hby d0_0) rfl rfl k) ?_
  show Go p e below s _ _ _ s₁ (mkF m 1 #[.val (.ref b163), .val (.ref a168), .val (.int f2), .val (.int (2 : Int32))] [(.ref b163)])
  obtain ⟨_, _, ⟨T170, L170, k170, n170⟩, -, X170, ⟨Lc170, hQ170, l170, y170, z170⟩, st170⟩ := Jvm.LawKit.callS X0 hx (y := xm31) hown (mvT hZ (tw16 hw)) (mvT hZ (tw17 hw)) (mvT hZ (tw18 hw)) (mvT hZ (tw19 hw)) (by decide) (backOf (W := 1) (rm_List_of_0 l Z a0 hw [] el h0 n0 Z0 Z_S_EMPTY_LIST O0) hZ (tw19 hw) (tw18 hw) (by decide) (by decide)) (g := (mkF m 1 #[.val (.ref b163), .val (.ref a168), .val (.int f2), .val (.int (2 : Int32))] [(.ref b163)])) rfl (by rw [hml]; rfl) (argsL := []) (rest := [(.ref b163)]) (lenOf pd_0 rfl) rfl (by show 2 * 0 + _ ≤ _; exact Nat.le_of_eq rfl) (hb hby d0_1) (fun _ _ => ⟨rfl, e0, (by decide : 0 + 0 ≤ _), (by decide : 0 + 0 ≤ _)⟩)
  dsimp only [Pt.U, Pt.locs, Pt.cells, Pt.slots] at X170 l170 y170 z170 st170 hQ170
  subst l170 y170 z170
  obtain ⟨rfl, N170q, eq170⟩ := hQ170
  have N171 := Fr.app N0 N170q
  refine Go.step (fun _ k => st170 _ k) ?_
  show Go p e below s _ _ _ T170 (mkF m 4 #[.val (.ref b163), .val (.ref a168), .val (.int f2), .val (.int (2 : Int32))] [(.ref el), (.ref b163)])
  obtain ⟨_, _, ⟨T174, L174, k174, n174⟩, -, X174, ⟨Lc174, hQ174, l174, y174, z174⟩, st174⟩ := X170.specialBack hx (y := xm10) rfl hown (mvT hZ (tw22 hw)) (mvT hZ (tw23 hw)) (mvT hZ (tw26 hw)) (by decide) (backOf (W := 0) (rm_Term_new_0 l Z a0 hw [] b163 el ela kel h0 n0 Z0 Z_E_el Z_F_elements_el O0 Z_A_ela E_b163 F_depth_b163 g_b163 F_index_b163 F_locationCounter_b163 F_name_b163) hZ (tw26 hw) (tw25 hw) (by decide) (by decide)) (g := (mkF m 4 #[.val (.ref b163), .val (.ref a168), .val (.int f2), .val (.int (2 : Int32))] [(.ref el), (.ref b163)])) rfl (by rw [hml]; rfl) (Steps.refl _) (a := b163) (argsL := [(.ref el)]) (rest := []) (lenOf pd_5 rfl) rfl (by show 2 * 0 + _ ≤ _; exact Nat.le_of_eq rfl) (hb hby d0_4) (fun _ _ => ⟨rfl, eq170, (by decide : 0 + 1 ≤ _), (by decide : 0 + 4 ≤ _)⟩)
  dsimp only [Pt.U, Pt.locs, Pt.cells, Pt.slots] at X174 l174 y174 z174 st174 hQ174
  subst l174 y174 z174
  obtain ⟨rfl, N174q, K174, P174_0, P174_1, P174_2, P174_3⟩ := hQ174
  have N175 := Fr.app N171 N174q
  refine Go.step (fun _ k => st174.trans (XS.aloadN X174.here hx rfl (hb hby d0_7) rfl rfl (XS.aloadN X174.here hx rfl (hb hby d0_8) rfl rfl k))) ?_
  show Go p e below s _ _ _ T174 (mkF m 9 #[.val (.ref b163), .val (.ref a168), .val (.int f2), .val (.int (2 : Int32))] [(.ref a168), (.ref b163)])
  have f176 := (E_b163.keep K174)
  obtain ⟨T177, h177, X177, e177, W177, st177⟩ := putF X174 hx hZ hown (host := "") (Or.inl (tw81 hw)) Via.refl rfl P174_3 f176 (Or.inr ⟨(tw82 hw), rfl, hnm⟩) (tw3 hw) (ty := (.object xs43)) (by decide) rfl rfl (g := (mkF m 9 #[.val (.ref b163), .val (.ref a168), .val (.int f2), .val (.int (2 : Int32))] [(.ref a168), (.ref b163)])) rfl rfl (hb hby d0_9)
  have f178 := P174_3.same W177
  have N179 := Fr.snoc X177 N175 g_b163
  refine Go.step (fun _ k => st177 _ (XS.aloadN X177.here hx rfl (hb hby d0_12) rfl rfl (XS.iloadN X177.here hx rfl (hb hby d0_13) rfl k))) ?_
  show Go p e below s _ _ _ T177 (mkF m 14 #[.val (.ref b163), .val (.ref a168), .val (.int f2), .val (.int (2 : Int32))] [(.int f2), (.ref b163)])
  have f180 := (P174_2.other W177 (Or.inr (slot_ne (Or.inr (tw84 hw)) (Or.inr (tw82 hw)) (by decide) (t := .boolean) (t' := (.object xs43)) (by decide) (by decide))))
  have f181 := (f176.wr W177)
  obtain ⟨T182, h182, X182, e182, W182, st182⟩ := putFN X177 hx hZ hown (tw83 hw) Via.refl e177 f180 f181 (Or.inr ⟨(tw84 hw), rfl, hnm⟩) (tw3 hw) (ty := .boolean) (v' := (.int (nar .boolean f2))) (by decide) rfl (fits_nar_bool _) (g := (mkF m 14 #[.val (.ref b163), .val (.ref a168), .val (.int f2), .val (.int (2 : Int32))] [(.int f2), (.ref b163)])) rfl rfl (hb hby d0_14)
  have f183 := f180.same W182
  have N184 := Fr.snoc X182 N179 g_b163
  refine Go.step (fun _ k => st182 _ (XS.aloadN X182.here hx rfl (hb hby d0_17) rfl rfl (XS.iloadN X182.here hx rfl (hb hby d0_18) rfl k))) ?_
  show Go p e below s _ _ _ T182 (mkF m 19 #[.val (.ref b163), .val (.ref a168), .val (.int f2), .val (.int (2 : Int32))] [(.int (2 : Int32)), (.ref b163)])
  have f185 := ((P174_1.other W177 (Or.inr (slot_ne (Or.inr (tw86 hw)) (Or.inr (tw82 hw)) (by decide) (t := .int) (t' := (.object xs43)) (by decide) (by decide)))).other W182 (Or.inr (slot_ne (Or.inr (tw86 hw)) (Or.inr (tw84 hw)) (by decide) (t := .int) (t' := .boolean) (by decide) (by decide))))
  have f186 := (f181.wr W182)
  obtain ⟨T187, h187, X187, e187, W187, st187⟩ := putF X182 hx hZ hown (host := "") (Or.inl (tw85 hw)) Via.refl e182 f185 f186 (Or.inr ⟨(tw86 hw), rfl, hnm⟩) (tw3 hw) (ty := .int) (by decide) rfl rfl (g := (mkF m 19 #[.val (.ref b163), .val (.ref a168), .val (.int f2), .val (.int (2 : Int32))] [(.int (2 : Int32)), (.ref b163)])) rfl rfl (hb hby d0_19)
  have f188 := f185.same W187
  have N189 := Fr.snoc X187 N184 g_b163
  refine Go.step (fun _ k => st187 _ k) ?_
  show Go p e below s _ _ _ T187 (mkF m 22 #[.val (.ref b163), .val (.ref a168), .val (.int f2), .val (.int (2 : Int32))] [])
  have f190 := (((((Keep.refl h0 [b163]).trans K174 (allS (Or.inl (List.mem_of_getElem? (i := 0) rfl)) all0)).wr W177 (Or.inl (List.mem_of_getElem? (i := 0) rfl))).wr W182 (Or.inl (List.mem_of_getElem? (i := 0) rfl))).wr W187 (Or.inl (List.mem_of_getElem? (i := 0) rfl)))
  have f191 := (((P174_0.other W177 (Or.inr (slot_ne (Or.inr (tw80 hw)) (Or.inr (tw82 hw)) (by decide) (t := .int) (t' := (.object xs43)) (by decide) (by decide)))).other W182 (Or.inr (slot_ne (Or.inr (tw80 hw)) (Or.inr (tw84 hw)) (by decide) (t := .int) (t' := .boolean) (by decide) (by decide)))).other W187 (Or.inr (slot_ne (Or.inr (tw80 hw)) (Or.inr (tw86 hw)) (by decide) (t := .int) (t' := .int) (by decide) (by decide))))
  have f192 := (f183.other W187 (Or.inr (slot_ne (Or.inr (tw84 hw)) (Or.inr (tw86 hw)) (by decide) (t := .boolean) (t' := .int) (by decide) (by decide))))
  have f193 := ((f178.other W182 (Or.inr (slot_ne (Or.inr (tw82 hw)) (Or.inr (tw84 hw)) (by decide) (t := (.object xs43)) (t' := .boolean) (by decide) (by decide)))).other W187 (Or.inr (slot_ne (Or.inr (tw82 hw)) (Or.inr (tw86 hw)) (by decide) (t := (.object xs43)) (t' := .int) (by decide) (by decide))))
  have f194 := (Nat.le_trans (Nat.le_trans (Nat.le_trans (Nat.le_trans (Nat.le_refl _) K174.1) (Keep.of_wr W177).1) (Keep.of_wr W182).1) (Keep.of_wr W187).1)
  exact Go.retV X187 hx hlk Bd.returns (hb hby d0_22) e187 ⟨rfl, N189, f190, f191, f188, f192, f193⟩ (by decide) (by decide)

theorem ef_AbstractCollection_new_0 (m : MethodId) (x0 : Addr) : entryFrame m #[(.ref x0)] 1 = mkF m 0 #[.val (.ref x0)] [] := by first | (simp [entryFrame, mkF, argsToLocals, Value.category]; done) | rfl
def Q_AbstractCollection_new_0 (Z : State) (b228 : Addr) (h0 : Heap) (n0 : Nat) (v : Option Value) (h : Heap) (L : List Loc) : Prop := v = none ∧ Fr n0 L ∧ h = h0
set_option maxRecDepth 65536 in
set_option maxHeartbeats 40000000 in
theorem rm_AbstractCollection_new_0 (l : Launch) (Z : State) (a0 : Array Value) (hw : ∀ d ∈ tables_1, d.before a0 Z = true) (ws : List Jvm.Cond) (b228 : Addr) (h0 : Heap) (n0 : Nat) (Z0 : n0 ≤ h0.size) :
    MetFree l xm6 (head1 (Jvm.Cond.code xm6 jdk_22_method_1_code 1 none :: ws) xr4) (fun a U => a = #[(.ref b228)] ∧ Z.Warmed39 U.vm ∧ U.heap = h0) (fun _ _ _ _ _ => True) (fun _ U o U' => ∃ v L, o = .returned v ∧ Q_AbstractCollection_new_0 Z b228 h0 n0 v U'.heap L ∧ FrameEnd U o U' L xr4.cells xr4.slots) := by
  refine MetFree.of_bodySF (plainFor_of_name pn_7) hisR ?_
  intro p e s m args below meth c s₁ Bd hml0 hP hK
  obtain ⟨rfl, hZ, hh⟩ := hP
  have hx := Bd.exec
  have hby := Bd.bytes
  have hlk : meth.locks = false := BodyLoose.notSynchronized Bd
  have hml : c.maxLocals = 1 := hml0
  have hown : s.vm.findClass xs21 = some m.cls := findClass_of_methodNamed Bd.named
  have hnm := (name_of_methodNamed Bd.named Bd.method).1
  have X0 : Stand p l e xr4 s m #[(.ref b228)] below meth c s₁ [] 0 0 := Stand.of_body Bd
  have e0 : s₁.heap = h0 := by rw [← hh, Bd.state]; rfl
  have N0 := Fr.nil n0
  show Go p e below s (Q_AbstractCollection_new_0 Z b228 h0 n0) xr4.cells xr4.slots s₁ (entryFrame m #[(.ref b228)] 1)
  refine Go.cast (ef_AbstractCollection_new_0 m b228) ?_
  show Go p e below s _ _ _ s₁ (mkF m 0 #[.val (.ref b228)] [])
  refine Go.step (fun _ k => XS.aloadN X0.here hx rfl (hb hby d10_0) rfl rfl k) ?_
  show Go p e below s _ _ _ s₁ (mkF m 1 #[.val (.ref b228)] [(.ref b228)])
  obtain ⟨T232, X232, e232, st232⟩ := initO X0 hx hZ hown (tw108 hw) (tw33 hw) (tw34 hw) e0 (g := (mkF m 1 #[.val (.ref b228)] [(.ref b228)])) rfl (by rw [hml]; rfl) rfl (hb hby d10_1) (by decide) (W := 0) (by show 2 * 0 + _ ≤ _; exact Nat.le_of_eq rfl) (by decide)
  refine Go.step (fun _ k => st232 _ k) ?_
  show Go p e below s _ _ _ T232 (mkF m 4 #[.val (.ref b228)] [])
  exact Go.retV X232 hx hlk Bd.returns (hb hby d10_4) e232 ⟨rfl, N0, rfl⟩ (by decide) (by decide)

theorem ef_AbstractList_new_0 (m : MethodId) (x0 : Addr) : entryFrame m #[(.ref x0)] 1 = mkF m 0 #[.val (.ref x0)] [] := by first | (simp [entryFrame, mkF, argsToLocals, Value.category]; done) | rfl
def Q_AbstractList_new_0 (Z : State) (b228 : Addr) (h0 : Heap) (n0 : Nat) (v : Option Value) (h : Heap) (L : List Loc) : Prop := v = none ∧ Fr n0 L ∧ Keep h0 h [b228] ∧ Fld Z h b228 xs26 "modCount" "I" (.int (0 : Int32)) ∧ Fld Z h b228 xs37 "elementData" xs35 .null ∧ Fld Z h b228 xs37 "size" "I" (.int (0 : Int32))
set_option maxRecDepth 65536 in
set_option maxHeartbeats 40000000 in
theorem rm_AbstractList_new_0 (l : Launch) (Z : State) (a0 : Array Value) (hw : ∀ d ∈ tables_1, d.before a0 Z = true) (ws : List Jvm.Cond) (b228 : Addr) (h0 : Heap) (n0 : Nat) (Z0 : n0 ≤ h0.size) (E_b228 : Exa Z h0 b228 xs37) (F_modCount_b228 : Fld Z h0 b228 xs26 "modCount" "I" (.int (0 : Int32))) (g_b228 : n0 ≤ b228) (F_elementData_b228 : Fld Z h0 b228 xs37 "elementData" xs35 .null) (F_size_b228 : Fld Z h0 b228 xs37 "size" "I" (.int (0 : Int32))) :
    MetFree l xm7 (head1 (Jvm.Cond.code xm7 jdk_39_method_1_code 1 none :: ws) xr9) (fun a U => a = #[(.ref b228)] ∧ Z.Warmed39 U.vm ∧ U.heap = h0) (fun _ _ _ _ _ => True) (fun _ U o U' => ∃ v L, o = .returned v ∧ Q_AbstractList_new_0 Z b228 h0 n0 v U'.heap L ∧ FrameEnd U o U' L xr9.cells xr9.slots) := by
  refine MetFree.of_bodySF (plainFor_of_name pn_8) hisR ?_
  intro p e s m args below meth c s₁ Bd hml0 hP hK
  obtain ⟨rfl, hZ, hh⟩ := hP
  have hx := Bd.exec
  have hby := Bd.bytes
  have hlk : meth.locks = false := BodyLoose.notSynchronized Bd
  have hml : c.maxLocals = 1 := hml0
  have hown : s.vm.findClass xs26 = some m.cls := findClass_of_methodNamed Bd.named
  have hnm := (name_of_methodNamed Bd.named Bd.method).1
  have X0 : Stand p l e xr9 s m #[(.ref b228)] below meth c s₁ [] 0 0 := Stand.of_body Bd
  have e0 : s₁.heap = h0 := by rw [← hh, Bd.state]; rfl
  have N0 := Fr.nil n0
  show Go p e below s (Q_AbstractList_new_0 Z b228 h0 n0) xr9.cells xr9.slots s₁ (entryFrame m #[(.ref b228)] 1)
  refine Go.cast (ef_AbstractList_new_0 m b228) ?_
  show Go p e below s _ _ _ s₁ (mkF m 0 #[.val (.ref b228)] [])
  refine Go.step (fun _ k => XS.aloadN X0.here hx rfl (hb hby d9_0) rfl rfl k) ?_
  show Go p e below s _ _ _ s₁ (mkF m 1 #[.val (.ref b228)] [(.ref b228)])
  obtain ⟨_, _, ⟨T233, L233, k233, n233⟩, -, X233, ⟨Lc233, hQ233, l233, y233, z233⟩, st233⟩ := X0.specialBack hx (y := xm6) rfl hown (mvT hZ (tw102 hw)) (mvT hZ (tw103 hw)) (mvT hZ (tw107 hw)) (by decide) (backOf (W := 0) (rm_AbstractCollection_new_0 l Z a0 hw [] b228 h0 n0 Z0) hZ (tw107 hw) (tw106 hw) (by decide) (by decide)) (g := (mkF m 1 #[.val (.ref b228)] [(.ref b228)])) rfl (by rw [hml]; rfl) (Steps.refl _) (a := b228) (argsL := []) (rest := []) (lenOf pd_7 rfl) rfl (by show 2 * 0 + _ ≤ _; exact Nat.le_of_eq rfl) (hb hby d9_1) (fun _ _ => ⟨rfl, e0, (by decide : 0 + 0 ≤ _), (by decide : 0 + 0 ≤ _)⟩)
  dsimp only [Pt.U, Pt.locs, Pt.cells, Pt.slots] at X233 l233 y233 z233 st233 hQ233
  subst l233 y233 z233
  obtain ⟨rfl, N233q, eq233⟩ := hQ233
  have N234 := Fr.app N0 N233q
  refine Go.step (fun _ k => st233.trans (XS.aloadN X233.here hx rfl (hb hby d9_4) rfl rfl (XS.iconst X233.here hx rfl (hb hby d9_5) k))) ?_
  show Go p e below s _ _ _ T233 (mkF m 6 #[.val (.ref b228)] [(.int (0 : Int32)), (.ref b228)])
  obtain ⟨T235, h235, X235, e235, W235, st235⟩ := putF X233 hx hZ hown (host := "") (Or.inl (tw109 hw)) Via.refl eq233 F_modCount_b228 E_b228 (Or.inl (tw110 hw)) (tw91 hw) (ty := .int) (by decide) rfl rfl (g := (mkF m 6 #[.val (.ref b228)] [(.int (0 : Int32)), (.ref b228)])) rfl rfl (hb hby d9_6)
  have f238 := F_modCount_b228.same W235
  have N239 := Fr.snoc X235 N234 g_b228
  refine Go.step (fun _ k => st235 _ k) ?_
  show Go p e below s _ _ _ T235 (mkF m 9 #[.val (.ref b228)] [])
  have f240 := ((Keep.refl h0 [b228]).wr W235 (Or.inl (List.mem_of_getElem? (i := 0) rfl)))
  have f241 := (F_elementData_b228.other W235 (Or.inr (slot_ne (Or.inl (tw113 hw)) (Or.inl (tw110 hw)) (by decide) (t := (.array (.object xs41))) (t' := .int) (by decide) (by decide))))
  have f242 := (F_size_b228.other W235 (Or.inr (slot_ne (Or.inl (tw158 hw)) (Or.inl (tw110 hw)) (by decide) (t := .int) (t' := .int) (by decide) (by decide))))
  have f243 := (Nat.le_trans (Nat.le_refl _) (Keep.of_wr W235).1)
  exact Go.retV X235 hx hlk Bd.returns (hb hby d9_9) e235 ⟨rfl, N239, f240, f238, f241, f242⟩ (by decide) (by decide)

theorem ef_ArrayList_new_0 (m : MethodId) (x0 : Addr) : entryFrame m #[(.ref x0)] 1 = mkF m 0 #[.val (.ref x0)] [] := by first | (simp [entryFrame, mkF, argsToLocals, Value.category]; done) | rfl
def Q_ArrayList_new_0 (Z : State) (b228 : Addr) (de : Addr) (h0 : Heap) (n0 : Nat) (v : Option Value) (h : Heap) (L : List Loc) : Prop := v = none ∧ Fr n0 L ∧ Keep h0 h [b228] ∧ Fld Z h b228 xs26 "modCount" "I" (.int (0 : Int32)) ∧ Fld Z h b228 xs37 "elementData" xs35 (.ref de) ∧ Fld Z h b228 xs37 "size" "I" (.int (0 : Int32))
set_option maxRecDepth 65536 in
set_option maxHeartbeats 40000000 in
theorem rm_ArrayList_new_0 (l : Launch) (Z : State) (a0 : Array Value) (hw : ∀ d ∈ tables_1, d.before a0 Z = true) (ws : List Jvm.Cond) (b228 : Addr) (de : Addr) (h0 : Heap) (n0 : Nat) (Z0 : n0 ≤ h0.size) (E_b228 : Exa Z h0 b228 xs37) (F_modCount_b228 : Fld Z h0 b228 xs26 "modCount" "I" (.int (0 : Int32))) (g_b228 : n0 ≤ b228) (F_elementData_b228 : Fld Z h0 b228 xs37 "elementData" xs35 .null) (F_size_b228 : Fld Z h0 b228 xs37 "size" "I" (.int (0 : Int32))) (Z_S_DEFAULTCAPACITY_EMPTY_ELEMENTDATA : Sta Z Z.heap xs37 xs19 xs35 (.ref de)) (O0 : Old Z n0 h0) :
    MetFree l xm8 (head1 (Jvm.Cond.code xm8 jdk_38_method_2_code 1 none :: ws) xr10) (fun a U => a = #[(.ref b228)] ∧ Z.Warmed39 U.vm ∧ U.heap = h0) (fun _ _ _ _ _ => True) (fun _ U o U' => ∃ v L, o = .returned v ∧ Q_ArrayList_new_0 Z b228 de h0 n0 v U'.heap L ∧ FrameEnd U o U' L xr10.cells xr10.slots) := by
  refine MetFree.of_bodySF (plainFor_of_name pn_9) hisR ?_
  intro p e s m args below meth c s₁ Bd hml0 hP hK
  obtain ⟨rfl, hZ, hh⟩ := hP
  have hx := Bd.exec
  have hby := Bd.bytes
  have hlk : meth.locks = false := BodyLoose.notSynchronized Bd
  have hml : c.maxLocals = 1 := hml0
  have hown : s.vm.findClass xs37 = some m.cls := findClass_of_methodNamed Bd.named
  have hnm := (name_of_methodNamed Bd.named Bd.method).1
  have X0 : Stand p l e xr10 s m #[(.ref b228)] below meth c s₁ [] 0 0 := Stand.of_body Bd
  have e0 : s₁.heap = h0 := by rw [← hh, Bd.state]; rfl
  have N0 := Fr.nil n0
  show Go p e below s (Q_ArrayList_new_0 Z b228 de h0 n0) xr10.cells xr10.slots s₁ (entryFrame m #[(.ref b228)] 1)
  refine Go.cast (ef_ArrayList_new_0 m b228) ?_
  show Go p e below s _ _ _ s₁ (mkF m 0 #[.val (.ref b228)] [])
  refine Go.step (fun _ k => XS.aloadN X0.here hx rfl (hb hby d8_0) rfl rfl k) ?_
  show Go p e below s _ _ _ s₁ (mkF m 1 #[.val (.ref b228)] [(.ref b228)])
  obtain ⟨_, _, ⟨T244, L244, k244, n244⟩, -, X244, ⟨Lc244, hQ244, l244, y244, z244⟩, st244⟩ := X0.specialBack hx (y := xm7) rfl hown (mvT hZ (tw96 hw)) (mvT hZ (tw97 hw)) (mvT hZ (tw101 hw)) (by decide) (backOf (W := 0) (rm_AbstractList_new_0 l Z a0 hw [] b228 h0 n0 Z0 E_b228 F_modCount_b228 g_b228 F_elementData_b228 F_size_b228) hZ (tw101 hw) (tw100 hw) (by decide) (by decide)) (g := (mkF m 1 #[.val (.ref b228)] [(.ref b228)])) rfl (by rw [hml]; rfl) (Steps.refl _) (a := b228) (argsL := []) (rest := []) (lenOf pd_7 rfl) rfl (by show 2 * 0 + _ ≤ _; exact Nat.le_of_eq rfl) (hb hby d8_1) (fun _ _ => ⟨rfl, e0, (by decide : 0 + 0 ≤ _), (by decide : 0 + 0 ≤ _)⟩)
  dsimp only [Pt.U, Pt.locs, Pt.cells, Pt.slots] at X244 l244 y244 z244 st244 hQ244
  subst l244 y244 z244
  obtain ⟨rfl, N244q, K244, P244_0, P244_1, P244_2⟩ := hQ244
  have N245 := Fr.app N0 N244q
  refine Go.step (fun _ k => st244.trans (XS.aloadN X244.here hx rfl (hb hby d8_4) rfl rfl k)) ?_
  show Go p e below s _ _ _ T244 (mkF m 5 #[.val (.ref b228)] [(.ref b228)])
  have f246 := (O0.keep K244 (allS g_b228 all0))
  obtain ⟨T247, X247, e247, st247⟩ := getS2 X244 hx hZ hown (host := "") (Or.inl (tw111 hw)) Via.refl rfl (Z_S_DEFAULTCAPACITY_EMPTY_ELEMENTDATA.ext f246.2) (g := (mkF m 5 #[.val (.ref b228)] [(.ref b228)])) rfl (hb hby d8_5)
  refine Go.step (fun _ k => st247 _ k) ?_
  show Go p e below s _ _ _ T247 (mkF m 8 #[.val (.ref b228)] [(.ref de), (.ref b228)])
  have f248 := (E_b228.keep K244)
  obtain ⟨T249, h249, X249, e249, W249, st249⟩ := putF X247 hx hZ hown (host := "") (Or.inl (tw112 hw)) Via.refl e247 P244_1 f248 (Or.inl (tw113 hw)) (tw91 hw) (ty := (.array (.object xs41))) (by decide) rfl rfl (g := (mkF m 8 #[.val (.ref b228)] [(.ref de), (.ref b228)])) rfl rfl (hb hby d8_8)
  have f250 := P244_1.same W249
  have N251 := Fr.snoc X249 N245 g_b228
  refine Go.step (fun _ k => st249 _ k) ?_
  show Go p e below s _ _ _ T249 (mkF m 11 #[.val (.ref b228)] [])
  have f252 := (((Keep.refl h0 [b228]).trans K244 (allS (Or.inl (List.mem_of_getElem? (i := 0) rfl)) all0)).wr W249 (Or.inl (List.mem_of_getElem? (i := 0) rfl)))
  have f253 := (P244_0.other W249 (Or.inr (slot_ne (Or.inl (tw110 hw)) (Or.inl (tw113 hw)) (by decide) (t := .int) (t' := (.array (.object xs41))) (by decide) (by decide))))
  have f254 := (P244_2.other W249 (Or.inr (slot_ne (Or.inl (tw158 hw)) (Or.inl (tw113 hw)) (by decide) (t := .int) (t' := (.array (.object xs41))) (by decide) (by decide))))
  have f255 := (Nat.le_trans (Nat.le_trans (Nat.le_refl _) K244.1) (Keep.of_wr W249).1)
  exact Go.retV X249 hx hlk Bd.returns (hb hby d8_11) e249 ⟨rfl, N251, f252, f253, f250, f254⟩ (by decide) (by decide)

theorem ef_vindex (m : MethodId) (x0 : Addr) : entryFrame m #[(.ref x0)] 1 = mkF m 0 #[.val (.ref x0)] [] := by first | (simp [entryFrame, mkF, argsToLocals, Value.category]; done) | rfl
def Q_vindex (Z : State) (a1 : Addr) (ix : Int32) (h0 : Heap) (n0 : Nat) (v : Option Value) (h : Heap) (L : List Loc) : Prop := v = some (.int ix) ∧ Fr n0 L ∧ h = h0
set_option maxRecDepth 65536 in
set_option maxHeartbeats 40000000 in
theorem rm_vindex (l : Launch) (Z : State) (a0 : Array Value) (hw : ∀ d ∈ tables_1, d.before a0 Z = true) (ws : List Jvm.Cond) (a1 : Addr) (ix : Int32) (h0 : Heap) (n0 : Nat) (Z0 : n0 ≤ h0.size) (F_index_a1 : Fld Z h0 a1 xs9 "index" "I" (.int ix)) :
    MetFree l xm17 (head1 (Jvm.Cond.code xm17 prog_117_method_5_code 1 (some .int) :: ws) xr15) (fun a U => a = #[(.ref a1)] ∧ Z.Warmed39 U.vm ∧ U.heap = h0) (fun _ _ _ _ _ => True) (fun _ U o U' => ∃ v L, o = .returned v ∧ Q_vindex Z a1 ix h0 n0 v U'.heap L ∧ FrameEnd U o U' L xr15.cells xr15.slots) := by
  refine MetFree.of_bodySF (plainFor_of_name pn_6) hisR ?_
  intro p e s m args below meth c s₁ Bd hml0 hP hK
  obtain ⟨rfl, hZ, hh⟩ := hP
  have hx := Bd.exec
  have hby := Bd.bytes
  have hlk : meth.locks = false := BodyLoose.notSynchronized Bd
  have hml : c.maxLocals = 1 := hml0
  have hown : s.vm.findClass xs9 = some m.cls := findClass_of_methodNamed Bd.named
  have hnm := (name_of_methodNamed Bd.named Bd.method).1
  have X0 : Stand p l e xr15 s m #[(.ref a1)] below meth c s₁ [] 0 0 := Stand.of_body Bd
  have e0 : s₁.heap = h0 := by rw [← hh, Bd.state]; rfl
  have N0 := Fr.nil n0
  show Go p e below s (Q_vindex Z a1 ix h0 n0) xr15.cells xr15.slots s₁ (entryFrame m #[(.ref a1)] 1)
  refine Go.cast (ef_vindex m a1) ?_
  show Go p e below s _ _ _ s₁ (mkF m 0 #[.val (.ref a1)] [])
  refine Go.step (fun _ k => XS.aloadN X0.here hx rfl (hb hby d11_0) rfl rfl k) ?_
  show Go p e below s _ _ _ s₁ (mkF m 1 #[.val (.ref a1)] [(.ref a1)])
  obtain ⟨T1, X1, e1, st1⟩ := getF X0 hx hZ hown (host := "") (Or.inl (tw85 hw)) Via.refl e0 F_index_a1 (g := (mkF m 1 #[.val (.ref a1)] [(.ref a1)])) rfl rfl (hb hby d11_1)
  refine Go.step (fun _ k => st1 _ k) ?_
  show Go p e below s _ _ _ T1 (mkF m 4 #[.val (.ref a1)] [(.int ix)])
  exact Go.retI X1 hx hlk Bd.returns (hb hby d11_4) e1 ⟨rfl, N0, rfl⟩ (by decide) (by decide)

theorem ef_variable0 (m : MethodId) (x0 : Addr) (x1 : Addr) : entryFrame m #[(.ref x0), (.ref x1)] 3 = mkF m 0 #[.val (.ref x0), .val (.ref x1), .unset] [] := by first | (simp [entryFrame, mkF, argsToLocals, Value.category]; done) | rfl
def Q_variable0 (Z : State) (a1 : Addr) (a2 : Addr) (ar : Addr) (ka : ClassId) (r0 : Value) (r1 : Value) (r2 : Value) (h0 : Heap) (n0 : Nat) (v : Option Value) (h : Heap) (L : List Loc) : Prop := v = some (own_or r0 a2) ∧ Fr n0 L ∧ h = h0
set_option maxRecDepth 65536 in
set_option maxHeartbeats 40000000 in
theorem rm_variable0 (l : Launch) (Z : State) (a0 : Array Value) (hw : ∀ d ∈ tables_1, d.before a0 Z = true) (ws : List Jvm.Cond) (a1 : Addr) (a2 : Addr) (ar : Addr) (ka : ClassId) (r0 : Value) (r1 : Value) (r2 : Value) (h0 : Heap) (n0 : Nat) (Z0 : n0 ≤ h0.size) (F_replacements_a1 : Fld Z h0 a1 xs4 "replacements" xs11 (.ref ar)) (V_ar : Arv Z h0 ar ka (.object xs13) (3 : Int32) [r0, r1, r2] .null) (E_a2 : Exa Z h0 a2 xs9) (F_index_a2 : Fld Z h0 a2 xs9 "index" "I" (.int (0 : Int32))) (hr : r0.isRef = true) :
    MetFree l xm11 (head1 (Jvm.Cond.code xm11 prog_108_method_3_code 3 (some (.object xs13)) :: ws) xr11) (fun a U => a = #[(.ref a1), (.ref a2)] ∧ Z.Warmed39 U.vm ∧ U.heap = h0) (fun _ _ _ _ _ => True) (fun _ U o U' => ∃ v L, o = .returned v ∧ Q_variable0 Z a1 a2 ar ka r0 r1 r2 h0 n0 v U'.heap L ∧ FrameEnd U o U' L xr11.cells xr11.slots) := by
  refine MetFree.of_bodySF (plainFor_of_name pn_10) hisR ?_
  intro p e s m args below meth c s₁ Bd hml0 hP hK
  obtain ⟨rfl, hZ, hh⟩ := hP
  have hx := Bd.exec
  have hby := Bd.bytes
  have hlk : meth.locks = false := BodyLoose.notSynchronized Bd
  have hml : c.maxLocals = 3 := hml0
  have hown : s.vm.findClass xs4 = some m.cls := findClass_of_methodNamed Bd.named
  have hnm := (name_of_methodNamed Bd.named Bd.method).1
  have X0 : Stand p l e xr11 s m #[(.ref a1), (.ref a2)] below meth c s₁ [] 0 0 := Stand.of_body Bd
  have e0 : s₁.heap = h0 := by rw [← hh, Bd.state]; rfl
  have N0 := Fr.nil n0
  show Go p e below s (Q_variable0 Z a1 a2 ar ka r0 r1 r2 h0 n0) xr11.cells xr11.slots s₁ (entryFrame m #[(.ref a1), (.ref a2)] 3)
  refine Go.cast (ef_variable0 m a1 a2) ?_
  show Go p e below s _ _ _ s₁ (mkF m 0 #[.val (.ref a1), .val (.ref a2), .unset] [])
  refine Go.step (fun _ k => XS.aloadN X0.here hx rfl (hb hby d12_0) rfl rfl k) ?_
  show Go p e below s _ _ _ s₁ (mkF m 1 #[.val (.ref a1), .val (.ref a2), .unset] [(.ref a1)])
  obtain ⟨T260, X260, e260, st260⟩ := getF X0 hx hZ hown (host := "") (Or.inl (tw123 hw)) Via.refl e0 F_replacements_a1 (g := (mkF m 1 #[.val (.ref a1), .val (.ref a2), .unset] [(.ref a1)])) rfl rfl (hb hby d12_1)
  refine Go.step (fun _ k => st260 _ (XS.aloadN X260.here hx rfl (hb hby d12_4) rfl rfl k)) ?_
  show Go p e below s _ _ _ T260 (mkF m 5 #[.val (.ref a1), .val (.ref a2), .unset] [(.ref a2), (.ref ar)])
  obtain ⟨cq261, kq261, q261a, q261b, q261c⟩ := isOf hZ e260 E_a2
  obtain ⟨_, _, ⟨T261, L261, k261, n261⟩, -, X261, ⟨Lc261, hQ261, l261, y261, z261⟩, st261⟩ := X260.virtualBack hx (y := xm17) (z := xm17) hown (mvT hZ (tw164 hw)) (mvT hZ (tw165 hw)) (notFace_of_selects (args := #[]) (mvT hZ (tw167 hw))) (mvT hZ (tw167 hw)) (mvT hZ (tw166 hw)) (by decide) (backOf (W := 1) (rm_vindex l Z a0 hw [] a2 (0 : Int32) h0 n0 Z0 F_index_a2) hZ (tw168 hw) (tw4 hw) (by decide) (by decide)) q261a q261c (g := (mkF m 5 #[.val (.ref a1), .val (.ref a2), .unset] [(.ref a2), (.ref ar)])) rfl (by rw [hml]; rfl) (Steps.refl _) (argsL := []) (rest := [(.ref ar)]) (lenOf pd_1 rfl) rfl (by show 2 * 0 + _ ≤ _; exact Nat.le_of_eq rfl) (hb hby d12_5) (fun _ _ => ⟨rfl, e260, (by decide : 0 + 0 ≤ _), (by decide : 0 + 0 ≤ _)⟩)
  dsimp only [Pt.U, Pt.locs, Pt.cells, Pt.slots] at X261 l261 y261 z261 st261 hQ261
  subst l261 y261 z261
  obtain ⟨rfl, N261q, eq261⟩ := hQ261
  have N262 := Fr.app N0 N261q
  refine Go.step (fun _ k => st261.trans k) ?_
  show Go p e below s _ _ _ T261 (mkF m 8 #[.val (.ref a1), .val (.ref a2), .unset] [(.int (0 : Int32)), (.ref ar)])
  obtain ⟨cl263, Ar263, -, Sz263, Ng263, Hs263, Ft263⟩ := id V_ar
  have in263 : ¬ ((0 : Int32) < 0 ∨ cl263.slots.size ≤ ((0 : Int32)).toNatClampNeg) := inb_of Sz263 ⟨by decide, by decide⟩
  have at263 : cl263.slots[((0 : Int32)).toNatClampNeg]? = some r0 := Hs263.at in263 rfl
  refine Go.step (fun _ k => X261.aaload hx (j := (0 : Int32)) (v := r0) (by rw [eq261]; exact Ar263.1) (State.isArrayOf_alike hZ.alike Ar263.2.1) rfl Ar263.2.2 in263 at263 (g := (mkF m 8 #[.val (.ref a1), .val (.ref a2), .unset] [(.int (0 : Int32)), (.ref ar)])) rfl rfl (hb hby d12_8) _ (XS.astoreN X261.here hx rfl (hb hby d12_9) rfl hr (XS.store1 rfl (Or.inl rfl) (own_cat hr)) (XS.aloadN X261.here hx rfl (hb hby d12_10) rfl hr k))) ?_
  show Go p e below s _ _ _ T261 (mkF m 11 #[.val (.ref a1), .val (.ref a2), .val r0] [r0])
  rcases ref_cases hr with rfl | ⟨ra, rfl⟩
  · refine Go.step (fun _ k => XS.ifnonnullNo X261.here hx rfl (hb hby d12_11) rfl (XS.aloadN X261.here hx rfl (hb hby d12_14) rfl rfl (XS.goto X261.here hx rfl (pc0 := 15) (pc' := 19) rfl (hb hby d12_15) (by decide) (by decide) k))) ?_
    show Go p e below s _ _ _ T261 (mkF m 19 #[.val (.ref a1), .val (.ref a2), .val .null] [(.ref a2)])
    exact Go.retA X261 hx hlk Bd.returns rfl rfl (hb hby d12_19) eq261 ⟨rfl, N262, rfl⟩ (by decide) (by decide)
  · refine Go.step (fun _ k => XS.ifnonnullYes X261.here hx rfl (pc0 := 11) (pc' := 18) rfl (hb hby d12_11) rfl (by decide) (by decide) (XS.aloadN X261.here hx rfl (hb hby d12_18) rfl rfl k)) ?_
    show Go p e below s _ _ _ T261 (mkF m 19 #[.val (.ref a1), .val (.ref a2), .val (.ref ra)] [(.ref ra)])
    exact Go.retA X261 hx hlk Bd.returns rfl rfl (hb hby d12_19) eq261 ⟨rfl, N262, rfl⟩ (by decide) (by decide)

theorem ef_variable1 (m : MethodId) (x0 : Addr) (x1 : Addr) : entryFrame m #[(.ref x0), (.ref x1)] 3 = mkF m 0 #[.val (.ref x0), .val (.ref x1), .unset] [] := by first | (simp [entryFrame, mkF, argsToLocals, Value.category]; done) | rfl
def Q_variable1 (Z : State) (a1 : Addr) (a2 : Addr) (ar : Addr) (ka : ClassId) (r0 : Value) (r1 : Value) (r2 : Value) (h0 : Heap) (n0 : Nat) (v : Option Value) (h : Heap) (L : List Loc) : Prop := v = some (own_or r1 a2) ∧ Fr n0 L ∧ h = h0
set_option maxRecDepth 65536 in
set_option maxHeartbeats 40000000 in
theorem rm_variable1 (l : Launch) (Z : State) (a0 : Array Value) (hw : ∀ d ∈ tables_1, d.before a0 Z = true) (ws : List Jvm.Cond) (a1 : Addr) (a2 : Addr) (ar : Addr) (ka : ClassId) (r0 : Value) (r1 : Value) (r2 : Value) (h0 : Heap) (n0 : Nat) (Z0 : n0 ≤ h0.size) (F_replacements_a1 : Fld Z h0 a1 xs4 "replacements" xs11 (.ref ar)) (V_ar : Arv Z h0 ar ka (.object xs13) (3 : Int32) [r0, r1, r2] .null) (E_a2 : Exa Z h0 a2 xs9) (F_index_a2 : Fld Z h0 a2 xs9 "index" "I" (.int (1 : Int32))) (hr : r1.isRef = true) :
    MetFree l xm11 (head1 (Jvm.Cond.code xm11 prog_108_method_3_code 3 (some (.object xs13)) :: ws) xr11) (fun a U => a = #[(.ref a1), (.ref a2)] ∧ Z.Warmed39 U.vm ∧ U.heap = h0) (fun _ _ _ _ _ => True) (fun _ U o U' => ∃ v L, o = .returned v ∧ Q_variable1 Z a1 a2 ar ka r0 r1 r2 h0 n0 v U'.heap L ∧ FrameEnd U o U' L xr11.cells xr11.slots) := by
  refine MetFree.of_bodySF (plainFor_of_name pn_10) hisR ?_
  intro p e s m args below meth c s₁ Bd hml0 hP hK
  obtain ⟨rfl, hZ, hh⟩ := hP
  have hx := Bd.exec
  have hby := Bd.bytes
  have hlk : meth.locks = false := BodyLoose.notSynchronized Bd
  have hml : c.maxLocals = 3 := hml0
  have hown : s.vm.findClass xs4 = some m.cls := findClass_of_methodNamed Bd.named
  have hnm := (name_of_methodNamed Bd.named Bd.method).1
  have X0 : Stand p l e xr11 s m #[(.ref a1), (.ref a2)] below meth c s₁ [] 0 0 := Stand.of_body Bd
  have e0 : s₁.heap = h0 := by rw [← hh, Bd.state]; rfl
  have N0 := Fr.nil n0
  show Go p e below s (Q_variable1 Z a1 a2 ar ka r0 r1 r2 h0 n0) xr11.cells xr11.slots s₁ (entryFrame m #[(.ref a1), (.ref a2)] 3)
  refine Go.cast (ef_variable1 m a1 a2) ?_
  show Go p e below s _ _ _ s₁ (mkF m 0 #[.val (.ref a1), .val (.ref a2), .unset] [])
  refine Go.step (fun _ k => XS.aloadN X0.here hx rfl (hb hby d12_0) rfl rfl k) ?_
  show Go p e below s _ _ _ s₁ (mkF m 1 #[.val (.ref a1), .val (.ref a2), .unset] [(.ref a1)])
  obtain ⟨T264, X264, e264, st264⟩ := getF X0 hx hZ hown (host := "") (Or.inl (tw123 hw)) Via.refl e0 F_replacements_a1 (g := (mkF m 1 #[.val (.ref a1), .val (.ref a2), .unset] [(.ref a1)])) rfl rfl (hb hby d12_1)
  refine Go.step (fun _ k => st264 _ (XS.aloadN X264.here hx rfl (hb hby d12_4) rfl rfl k)) ?_
  show Go p e below s _ _ _ T264 (mkF m 5 #[.val (.ref a1), .val (.ref a2), .unset] [(.ref a2), (.ref ar)])
  obtain ⟨cq265, kq265, q265a, q265b, q265c⟩ := isOf hZ e264 E_a2
  obtain ⟨_, _, ⟨T265, L265, k265, n265⟩, -, X265, ⟨Lc265, hQ265, l265, y265, z265⟩, st265⟩ := X264.virtualBack hx (y := xm17) (z := xm17) hown (mvT hZ (tw164 hw)) (mvT hZ (tw165 hw)) (notFace_of_selects (args := #[]) (mvT hZ (tw167 hw))) (mvT hZ (tw167 hw)) (mvT hZ (tw166 hw)) (by decide) (backOf (W := 1) (rm_vindex l Z a0 hw [] a2 (1 : Int32) h0 n0 Z0 F_index_a2) hZ (tw168 hw) (tw4 hw) (by decide) (by decide)) q265a q265c (g := (mkF m 5 #[.val (.ref a1), .val (.ref a2), .unset] [(.ref a2), (.ref ar)])) rfl (by rw [hml]; rfl) (Steps.refl _) (argsL := []) (rest := [(.ref ar)]) (lenOf pd_1 rfl) rfl (by show 2 * 0 + _ ≤ _; exact Nat.le_of_eq rfl) (hb hby d12_5) (fun _ _ => ⟨rfl, e264, (by decide : 0 + 0 ≤ _), (by decide : 0 + 0 ≤ _)⟩)
  dsimp only [Pt.U, Pt.locs, Pt.cells, Pt.slots] at X265 l265 y265 z265 st265 hQ265
  subst l265 y265 z265
  obtain ⟨rfl, N265q, eq265⟩ := hQ265
  have N266 := Fr.app N0 N265q
  refine Go.step (fun _ k => st265.trans k) ?_
  show Go p e below s _ _ _ T265 (mkF m 8 #[.val (.ref a1), .val (.ref a2), .unset] [(.int (1 : Int32)), (.ref ar)])
  obtain ⟨cl267, Ar267, -, Sz267, Ng267, Hs267, Ft267⟩ := id V_ar
  have in267 : ¬ ((1 : Int32) < 0 ∨ cl267.slots.size ≤ ((1 : Int32)).toNatClampNeg) := inb_of Sz267 ⟨by decide, by decide⟩
  have at267 : cl267.slots[((1 : Int32)).toNatClampNeg]? = some r1 := Hs267.at in267 rfl
  refine Go.step (fun _ k => X265.aaload hx (j := (1 : Int32)) (v := r1) (by rw [eq265]; exact Ar267.1) (State.isArrayOf_alike hZ.alike Ar267.2.1) rfl Ar267.2.2 in267 at267 (g := (mkF m 8 #[.val (.ref a1), .val (.ref a2), .unset] [(.int (1 : Int32)), (.ref ar)])) rfl rfl (hb hby d12_8) _ (XS.astoreN X265.here hx rfl (hb hby d12_9) rfl hr (XS.store1 rfl (Or.inl rfl) (own_cat hr)) (XS.aloadN X265.here hx rfl (hb hby d12_10) rfl hr k))) ?_
  show Go p e below s _ _ _ T265 (mkF m 11 #[.val (.ref a1), .val (.ref a2), .val r1] [r1])
  rcases ref_cases hr with rfl | ⟨ra, rfl⟩
  · refine Go.step (fun _ k => XS.ifnonnullNo X265.here hx rfl (hb hby d12_11) rfl (XS.aloadN X265.here hx rfl (hb hby d12_14) rfl rfl (XS.goto X265.here hx rfl (pc0 := 15) (pc' := 19) rfl (hb hby d12_15) (by decide) (by decide) k))) ?_
    show Go p e below s _ _ _ T265 (mkF m 19 #[.val (.ref a1), .val (.ref a2), .val .null] [(.ref a2)])
    exact Go.retA X265 hx hlk Bd.returns rfl rfl (hb hby d12_19) eq265 ⟨rfl, N266, rfl⟩ (by decide) (by decide)
  · refine Go.step (fun _ k => XS.ifnonnullYes X265.here hx rfl (pc0 := 11) (pc' := 18) rfl (hb hby d12_11) rfl (by decide) (by decide) (XS.aloadN X265.here hx rfl (hb hby d12_18) rfl rfl k)) ?_
    show Go p e below s _ _ _ T265 (mkF m 19 #[.val (.ref a1), .val (.ref a2), .val (.ref ra)] [(.ref ra)])
    exact Go.retA X265 hx hlk Bd.returns rfl rfl (hb hby d12_19) eq265 ⟨rfl, N266, rfl⟩ (by decide) (by decide)

theorem ef_variable2 (m : MethodId) (x0 : Addr) (x1 : Addr) : entryFrame m #[(.ref x0), (.ref x1)] 3 = mkF m 0 #[.val (.ref x0), .val (.ref x1), .unset] [] := by first | (simp [entryFrame, mkF, argsToLocals, Value.category]; done) | rfl
def Q_variable2 (Z : State) (a1 : Addr) (a2 : Addr) (ar : Addr) (ka : ClassId) (r0 : Value) (r1 : Value) (r2 : Value) (h0 : Heap) (n0 : Nat) (v : Option Value) (h : Heap) (L : List Loc) : Prop := v = some (own_or r2 a2) ∧ Fr n0 L ∧ h = h0
set_option maxRecDepth 65536 in
set_option maxHeartbeats 40000000 in
theorem rm_variable2 (l : Launch) (Z : State) (a0 : Array Value) (hw : ∀ d ∈ tables_1, d.before a0 Z = true) (ws : List Jvm.Cond) (a1 : Addr) (a2 : Addr) (ar : Addr) (ka : ClassId) (r0 : Value) (r1 : Value) (r2 : Value) (h0 : Heap) (n0 : Nat) (Z0 : n0 ≤ h0.size) (F_replacements_a1 : Fld Z h0 a1 xs4 "replacements" xs11 (.ref ar)) (V_ar : Arv Z h0 ar ka (.object xs13) (3 : Int32) [r0, r1, r2] .null) (E_a2 : Exa Z h0 a2 xs9) (F_index_a2 : Fld Z h0 a2 xs9 "index" "I" (.int (2 : Int32))) (hr : r2.isRef = true) :
    MetFree l xm11 (head1 (Jvm.Cond.code xm11 prog_108_method_3_code 3 (some (.object xs13)) :: ws) xr11) (fun a U => a = #[(.ref a1), (.ref a2)] ∧ Z.Warmed39 U.vm ∧ U.heap = h0) (fun _ _ _ _ _ => True) (fun _ U o U' => ∃ v L, o = .returned v ∧ Q_variable2 Z a1 a2 ar ka r0 r1 r2 h0 n0 v U'.heap L ∧ FrameEnd U o U' L xr11.cells xr11.slots) := by
  refine MetFree.of_bodySF (plainFor_of_name pn_10) hisR ?_
  intro p e s m args below meth c s₁ Bd hml0 hP hK
  obtain ⟨rfl, hZ, hh⟩ := hP
  have hx := Bd.exec
  have hby := Bd.bytes
  have hlk : meth.locks = false := BodyLoose.notSynchronized Bd
  have hml : c.maxLocals = 3 := hml0
  have hown : s.vm.findClass xs4 = some m.cls := findClass_of_methodNamed Bd.named
  have hnm := (name_of_methodNamed Bd.named Bd.method).1
  have X0 : Stand p l e xr11 s m #[(.ref a1), (.ref a2)] below meth c s₁ [] 0 0 := Stand.of_body Bd
  have e0 : s₁.heap = h0 := by rw [← hh, Bd.state]; rfl
  have N0 := Fr.nil n0
  show Go p e below s (Q_variable2 Z a1 a2 ar ka r0 r1 r2 h0 n0) xr11.cells xr11.slots s₁ (entryFrame m #[(.ref a1), (.ref a2)] 3)
  refine Go.cast (ef_variable2 m a1 a2) ?_
  show Go p e below s _ _ _ s₁ (mkF m 0 #[.val (.ref a1), .val (.ref a2), .unset] [])
  refine Go.step (fun _ k => XS.aloadN X0.here hx rfl (hb hby d12_0) rfl rfl k) ?_
  show Go p e below s _ _ _ s₁ (mkF m 1 #[.val (.ref a1), .val (.ref a2), .unset] [(.ref a1)])
  obtain ⟨T268, X268, e268, st268⟩ := getF X0 hx hZ hown (host := "") (Or.inl (tw123 hw)) Via.refl e0 F_replacements_a1 (g := (mkF m 1 #[.val (.ref a1), .val (.ref a2), .unset] [(.ref a1)])) rfl rfl (hb hby d12_1)
  refine Go.step (fun _ k => st268 _ (XS.aloadN X268.here hx rfl (hb hby d12_4) rfl rfl k)) ?_
  show Go p e below s _ _ _ T268 (mkF m 5 #[.val (.ref a1), .val (.ref a2), .unset] [(.ref a2), (.ref ar)])
  obtain ⟨cq269, kq269, q269a, q269b, q269c⟩ := isOf hZ e268 E_a2
  obtain ⟨_, _, ⟨T269, L269, k269, n269⟩, -, X269, ⟨Lc269, hQ269, l269, y269, z269⟩, st269⟩ := X268.virtualBack hx (y := xm17) (z := xm17) hown (mvT hZ (tw164 hw)) (mvT hZ (tw165 hw)) (notFace_of_selects (args := #[]) (mvT hZ (tw167 hw))) (mvT hZ (tw167 hw)) (mvT hZ (tw166 hw)) (by decide) (backOf (W := 1) (rm_vindex l Z a0 hw [] a2 (2 : Int32) h0 n0 Z0 F_index_a2) hZ (tw168 hw) (tw4 hw) (by decide) (by decide)) q269a q269c (g := (mkF m 5 #[.val (.ref a1), .val (.ref a2), .unset] [(.ref a2), (.ref ar)])) rfl (by rw [hml]; rfl) (Steps.refl _) (argsL := []) (rest := [(.ref ar)]) (lenOf pd_1 rfl) rfl (by show 2 * 0 + _ ≤ _; exact Nat.le_of_eq rfl) (hb hby d12_5) (fun _ _ => ⟨rfl, e268, (by decide : 0 + 0 ≤ _), (by decide : 0 + 0 ≤ _)⟩)
  dsimp only [Pt.U, Pt.locs, Pt.cells, Pt.slots] at X269 l269 y269 z269 st269 hQ269
  subst l269 y269 z269
  obtain ⟨rfl, N269q, eq269⟩ := hQ269
  have N270 := Fr.app N0 N269q
  refine Go.step (fun _ k => st269.trans k) ?_
  show Go p e below s _ _ _ T269 (mkF m 8 #[.val (.ref a1), .val (.ref a2), .unset] [(.int (2 : Int32)), (.ref ar)])
  obtain ⟨cl271, Ar271, -, Sz271, Ng271, Hs271, Ft271⟩ := id V_ar
  have in271 : ¬ ((2 : Int32) < 0 ∨ cl271.slots.size ≤ ((2 : Int32)).toNatClampNeg) := inb_of Sz271 ⟨by decide, by decide⟩
  have at271 : cl271.slots[((2 : Int32)).toNatClampNeg]? = some r2 := Hs271.at in271 rfl
  refine Go.step (fun _ k => X269.aaload hx (j := (2 : Int32)) (v := r2) (by rw [eq269]; exact Ar271.1) (State.isArrayOf_alike hZ.alike Ar271.2.1) rfl Ar271.2.2 in271 at271 (g := (mkF m 8 #[.val (.ref a1), .val (.ref a2), .unset] [(.int (2 : Int32)), (.ref ar)])) rfl rfl (hb hby d12_8) _ (XS.astoreN X269.here hx rfl (hb hby d12_9) rfl hr (XS.store1 rfl (Or.inl rfl) (own_cat hr)) (XS.aloadN X269.here hx rfl (hb hby d12_10) rfl hr k))) ?_
  show Go p e below s _ _ _ T269 (mkF m 11 #[.val (.ref a1), .val (.ref a2), .val r2] [r2])
  rcases ref_cases hr with rfl | ⟨ra, rfl⟩
  · refine Go.step (fun _ k => XS.ifnonnullNo X269.here hx rfl (hb hby d12_11) rfl (XS.aloadN X269.here hx rfl (hb hby d12_14) rfl rfl (XS.goto X269.here hx rfl (pc0 := 15) (pc' := 19) rfl (hb hby d12_15) (by decide) (by decide) k))) ?_
    show Go p e below s _ _ _ T269 (mkF m 19 #[.val (.ref a1), .val (.ref a2), .val .null] [(.ref a2)])
    exact Go.retA X269 hx hlk Bd.returns rfl rfl (hb hby d12_19) eq269 ⟨rfl, N270, rfl⟩ (by decide) (by decide)
  · refine Go.step (fun _ k => XS.ifnonnullYes X269.here hx rfl (pc0 := 11) (pc' := 18) rfl (hb hby d12_11) rfl (by decide) (by decide) (XS.aloadN X269.here hx rfl (hb hby d12_18) rfl rfl k)) ?_
    show Go p e below s _ _ _ T269 (mkF m 19 #[.val (.ref a1), .val (.ref a2), .val (.ref ra)] [(.ref ra)])
    exact Go.retA X269 hx hlk Bd.returns rfl rfl (hb hby d12_19) eq269 ⟨rfl, N270, rfl⟩ (by decide) (by decide)

theorem ef_expect0 (m : MethodId) (x0 : Addr) (x1 : Int32) (x2 : Int32) (x3 : Int32) (x4 : Int32) (x5 : Int32) (x6 : Int32) : entryFrame m #[(.ref x0), (.int x1), (.int x2), (.int x3), (.int x4), (.int x5), (.int x6)] 8 = mkF m 0 #[.val (.ref x0), .val (.int x1), .val (.int x2), .val (.int x3), .val (.int x4), .val (.int x5), .val (.int x6), .unset] [] := by first | (simp [entryFrame, mkF, argsToLocals, Value.category]; done) | rfl
def Q_expect0 (Z : State) (a1 : Addr) (i1 : Int32) (j1 : Int32) (i2 : Int32) (j2 : Int32) (q : Int32) (ka : ClassId) (c0 : Addr) (c1 : Addr) (c2 : Addr) (tq : Addr) (t1 : Addr) (t2 : Addr) (h0 : Heap) (n0 : Nat) (v : Option Value) (h : Heap) (L : List Loc) : Prop := v = some (.ref tq) ∧ Fr n0 L ∧ h = h0
set_option maxRecDepth 65536 in
set_option maxHeartbeats 40000000 in
theorem rm_expect0 (l : Launch) (Z : State) (a0 : Array Value) (hw : ∀ d ∈ tables_1, d.before a0 Z = true) (ws : List Jvm.Cond) (a1 : Addr) (i1 : Int32) (j1 : Int32) (i2 : Int32) (j2 : Int32) (q : Int32) (ka : ClassId) (c0 : Addr) (c1 : Addr) (c2 : Addr) (tq : Addr) (t1 : Addr) (t2 : Addr) (h0 : Heap) (n0 : Nat) (Z0 : n0 ≤ h0.size) (V_a1 : Arv Z h0 a1 ka (.object xs9) (3 : Int32) [(.ref c0), (.ref c1), (.ref c2)] .null) (pq : ([(.ref c0), (.ref c1), (.ref c2)] : List Value).getD (q).toNatClampNeg .null = .ref tq ∧ (¬ q < 0 ∧ q < (3 : Int32))) (p1 : ([(.ref c0), (.ref c1), (.ref c2)] : List Value).getD (j1).toNatClampNeg .null = .ref t1 ∧ (¬ j1 < 0 ∧ j1 < (3 : Int32))) (p2 : ([(.ref c0), (.ref c1), (.ref c2)] : List Value).getD (j2).toNatClampNeg .null = .ref t2 ∧ (¬ j2 < 0 ∧ j2 < (3 : Int32))) :
    MetFree l xm19 (head1 (Jvm.Cond.code xm19 method_2_code 8 (some (.object xs13)) :: ws) xr15) (fun a U => a = #[(.ref a1), (.int (0 : Int32)), (.int i1), (.int j1), (.int i2), (.int j2), (.int q)] ∧ Z.Warmed39 U.vm ∧ U.heap = h0) (fun _ _ _ _ _ => True) (fun _ U o U' => ∃ v L, o = .returned v ∧ Q_expect0 Z a1 i1 j1 i2 j2 q ka c0 c1 c2 tq t1 t2 h0 n0 v U'.heap L ∧ FrameEnd U o U' L xr15.cells xr15.slots) := by
  refine MetFree.of_bodySF (plainFor_of_name pn_11) hisR ?_
  intro p e s m args below meth c s₁ Bd hml0 hP hK
  obtain ⟨rfl, hZ, hh⟩ := hP
  have hx := Bd.exec
  have hby := Bd.bytes
  have hlk : meth.locks = false := BodyLoose.notSynchronized Bd
  have hml : c.maxLocals = 8 := hml0
  have hown : s.vm.findClass xs3 = some m.cls := findClass_of_methodNamed Bd.named
  have hnm := (name_of_methodNamed Bd.named Bd.method).1
  have X0 : Stand p l e xr15 s m #[(.ref a1), (.int (0 : Int32)), (.int i1), (.int j1), (.int i2), (.int j2), (.int q)] below meth c s₁ [] 0 0 := Stand.of_body Bd
  have e0 : s₁.heap = h0 := by rw [← hh, Bd.state]; rfl
  have N0 := Fr.nil n0
  show Go p e below s (Q_expect0 Z a1 i1 j1 i2 j2 q ka c0 c1 c2 tq t1 t2 h0 n0) xr15.cells xr15.slots s₁ (entryFrame m #[(.ref a1), (.int (0 : Int32)), (.int i1), (.int j1), (.int i2), (.int j2), (.int q)] 8)
  refine Go.cast (ef_expect0 m a1 (0 : Int32) i1 j1 i2 j2 q) ?_
  show Go p e below s _ _ _ s₁ (mkF m 0 #[.val (.ref a1), .val (.int (0 : Int32)), .val (.int i1), .val (.int j1), .val (.int i2), .val (.int j2), .val (.int q), .unset] [])
  refine Go.step (fun _ k => XS.aloadN X0.here hx rfl (hb hby d13_0) rfl rfl (XS.iload X0.here hx rfl (hb hby d13_1) rfl k)) ?_
  show Go p e below s _ _ _ s₁ (mkF m 3 #[.val (.ref a1), .val (.int (0 : Int32)), .val (.int i1), .val (.int j1), .val (.int i2), .val (.int j2), .val (.int q), .unset] [(.int q), (.ref a1)])
  obtain ⟨cl1, Ar1, -, Sz1, Ng1, Hs1, Ft1⟩ := id V_a1
  have in1 : ¬ (q < 0 ∨ cl1.slots.size ≤ (q).toNatClampNeg) := inb_of Sz1 pq.2
  have at1 : cl1.slots[(q).toNatClampNeg]? = some (.ref tq) := Hs1.at in1 pq.1
  refine Go.step (fun _ k => X0.aaload hx (j := q) (v := (.ref tq)) (by rw [e0]; exact Ar1.1) (State.isArrayOf_alike hZ.alike Ar1.2.1) rfl Ar1.2.2 in1 at1 (g := (mkF m 3 #[.val (.ref a1), .val (.int (0 : Int32)), .val (.int i1), .val (.int j1), .val (.int i2), .val (.int j2), .val (.int q), .unset] [(.int q), (.ref a1)])) rfl rfl (hb hby d13_3) _ (XS.astore X0.here hx rfl (hb hby d13_4) rfl rfl (l' := #[.val (.ref a1), .val (.int (0 : Int32)), .val (.int i1), .val (.int j1), .val (.int i2), .val (.int j2), .val (.int q), .val (.ref tq)]) rfl (XS.iloadN X0.here hx rfl (hb hby d13_6) rfl (XS.iconst X0.here hx rfl (hb hby d13_7) (XS.icmpYes X0.here hx rfl (pc0 := 8) (pc' := 22) rfl (hb hby d13_8) rfl (tlt (by decide)).1 (by decide) (by decide) (XS.iloadN X0.here hx rfl (hb hby d13_22) rfl (XS.iconst X0.here hx rfl (hb hby d13_23) (XS.icmpYes X0.here hx rfl (pc0 := 24) (pc' := 40) rfl (hb hby d13_24) rfl (tlt (by decide)).1 (by decide) (by decide) (XS.aload X0.here hx rfl (hb hby d13_40) rfl rfl k))))))))) ?_
  show Go p e below s _ _ _ s₁ (mkF m 42 #[.val (.ref a1), .val (.int (0 : Int32)), .val (.int i1), .val (.int j1), .val (.int i2), .val (.int j2), .val (.int q), .val (.ref tq)] [(.ref tq)])
  exact Go.retA X0 hx hlk Bd.returns rfl rfl (hb hby d13_42) e0 ⟨rfl, N0, rfl⟩ (by decide) (by decide)

theorem ef_expect1 (m : MethodId) (x0 : Addr) (x1 : Int32) (x2 : Int32) (x3 : Int32) (x4 : Int32) (x5 : Int32) (x6 : Int32) : entryFrame m #[(.ref x0), (.int x1), (.int x2), (.int x3), (.int x4), (.int x5), (.int x6)] 8 = mkF m 0 #[.val (.ref x0), .val (.int x1), .val (.int x2), .val (.int x3), .val (.int x4), .val (.int x5), .val (.int x6), .unset] [] := by first | (simp [entryFrame, mkF, argsToLocals, Value.category]; done) | rfl
def Q_expect1 (Z : State) (a1 : Addr) (i1 : Int32) (j1 : Int32) (i2 : Int32) (j2 : Int32) (q : Int32) (ka : ClassId) (c0 : Addr) (c1 : Addr) (c2 : Addr) (tq : Addr) (t1 : Addr) (t2 : Addr) (h0 : Heap) (n0 : Nat) (v : Option Value) (h : Heap) (L : List Loc) : Prop := v = some (.ref (own_e1 i1 q tq t1)) ∧ Fr n0 L ∧ h = h0
set_option maxRecDepth 65536 in
set_option maxHeartbeats 40000000 in
theorem rm_expect1 (l : Launch) (Z : State) (a0 : Array Value) (hw : ∀ d ∈ tables_1, d.before a0 Z = true) (ws : List Jvm.Cond) (a1 : Addr) (i1 : Int32) (j1 : Int32) (i2 : Int32) (j2 : Int32) (q : Int32) (ka : ClassId) (c0 : Addr) (c1 : Addr) (c2 : Addr) (tq : Addr) (t1 : Addr) (t2 : Addr) (h0 : Heap) (n0 : Nat) (Z0 : n0 ≤ h0.size) (V_a1 : Arv Z h0 a1 ka (.object xs9) (3 : Int32) [(.ref c0), (.ref c1), (.ref c2)] .null) (pq : ([(.ref c0), (.ref c1), (.ref c2)] : List Value).getD (q).toNatClampNeg .null = .ref tq ∧ (¬ q < 0 ∧ q < (3 : Int32))) (p1 : ([(.ref c0), (.ref c1), (.ref c2)] : List Value).getD (j1).toNatClampNeg .null = .ref t1 ∧ (¬ j1 < 0 ∧ j1 < (3 : Int32))) (p2 : ([(.ref c0), (.ref c1), (.ref c2)] : List Value).getD (j2).toNatClampNeg .null = .ref t2 ∧ (¬ j2 < 0 ∧ j2 < (3 : Int32))) :
    MetFree l xm19 (head1 (Jvm.Cond.code xm19 method_2_code 8 (some (.object xs13)) :: ws) xr15) (fun a U => a = #[(.ref a1), (.int (1 : Int32)), (.int i1), (.int j1), (.int i2), (.int j2), (.int q)] ∧ Z.Warmed39 U.vm ∧ U.heap = h0) (fun _ _ _ _ _ => True) (fun _ U o U' => ∃ v L, o = .returned v ∧ Q_expect1 Z a1 i1 j1 i2 j2 q ka c0 c1 c2 tq t1 t2 h0 n0 v U'.heap L ∧ FrameEnd U o U' L xr15.cells xr15.slots) := by
  refine MetFree.of_bodySF (plainFor_of_name pn_11) hisR ?_
  intro p e s m args below meth c s₁ Bd hml0 hP hK
  obtain ⟨rfl, hZ, hh⟩ := hP
  have hx := Bd.exec
  have hby := Bd.bytes
  have hlk : meth.locks = false := BodyLoose.notSynchronized Bd
  have hml : c.maxLocals = 8 := hml0
  have hown : s.vm.findClass xs3 = some m.cls := findClass_of_methodNamed Bd.named
  have hnm := (name_of_methodNamed Bd.named Bd.method).1
  have X0 : Stand p l e xr15 s m #[(.ref a1), (.int (1 : Int32)), (.int i1), (.int j1), (.int i2), (.int j2), (.int q)] below meth c s₁ [] 0 0 := Stand.of_body Bd
  have e0 : s₁.heap = h0 := by rw [← hh, Bd.state]; rfl
  have N0 := Fr.nil n0
  show Go p e below s (Q_expect1 Z a1 i1 j1 i2 j2 q ka c0 c1 c2 tq t1 t2 h0 n0) xr15.cells xr15.slots s₁ (entryFrame m #[(.ref a1), (.int (1 : Int32)), (.int i1), (.int j1), (.int i2), (.int j2), (.int q)] 8)
  refine Go.cast (ef_expect1 m a1 (1 : Int32) i1 j1 i2 j2 q) ?_
  show Go p e below s _ _ _ s₁ (mkF m 0 #[.val (.ref a1), .val (.int (1 : Int32)), .val (.int i1), .val (.int j1), .val (.int i2), .val (.int j2), .val (.int q), .unset] [])
  refine Go.step (fun _ k => XS.aloadN X0.here hx rfl (hb hby d13_0) rfl rfl (XS.iload X0.here hx rfl (hb hby d13_1) rfl k)) ?_
  show Go p e below s _ _ _ s₁ (mkF m 3 #[.val (.ref a1), .val (.int (1 : Int32)), .val (.int i1), .val (.int j1), .val (.int i2), .val (.int j2), .val (.int q), .unset] [(.int q), (.ref a1)])
  obtain ⟨cl1, Ar1, -, Sz1, Ng1, Hs1, Ft1⟩ := id V_a1
  have in1 : ¬ (q < 0 ∨ cl1.slots.size ≤ (q).toNatClampNeg) := inb_of Sz1 pq.2
  have at1 : cl1.slots[(q).toNatClampNeg]? = some (.ref tq) := Hs1.at in1 pq.1
  refine Go.step (fun _ k => X0.aaload hx (j := q) (v := (.ref tq)) (by rw [e0]; exact Ar1.1) (State.isArrayOf_alike hZ.alike Ar1.2.1) rfl Ar1.2.2 in1 at1 (g := (mkF m 3 #[.val (.ref a1), .val (.int (1 : Int32)), .val (.int i1), .val (.int j1), .val (.int i2), .val (.int j2), .val (.int q), .unset] [(.int q), (.ref a1)])) rfl rfl (hb hby d13_3) _ (XS.astore X0.here hx rfl (hb hby d13_4) rfl rfl (l' := #[.val (.ref a1), .val (.int (1 : Int32)), .val (.int i1), .val (.int j1), .val (.int i2), .val (.int j2), .val (.int q), .val (.ref tq)]) rfl (XS.iloadN X0.here hx rfl (hb hby d13_6) rfl (XS.iconst X0.here hx rfl (hb hby d13_7) (XS.icmpNo X0.here hx rfl (hb hby d13_8) rfl (flt (by decide)).1 (XS.iloadN X0.here hx rfl (hb hby d13_11) rfl (XS.iload X0.here hx rfl (hb hby d13_12) rfl k))))))) ?_
  show Go p e below s _ _ _ s₁ (mkF m 14 #[.val (.ref a1), .val (.int (1 : Int32)), .val (.int i1), .val (.int j1), .val (.int i2), .val (.int j2), .val (.int q), .val (.ref tq)] [(.int q), (.int i1)])
  by_cases h1 : i1 = q
  · refine Go.step (fun _ k => XS.icmpNo X0.here hx rfl (hb hby d13_14) rfl (teq h1).2 (XS.aloadN X0.here hx rfl (hb hby d13_17) rfl rfl (XS.iloadN X0.here hx rfl (hb hby d13_18) rfl k))) ?_
    show Go p e below s _ _ _ s₁ (mkF m 19 #[.val (.ref a1), .val (.int (1 : Int32)), .val (.int i1), .val (.int j1), .val (.int i2), .val (.int j2), .val (.int q), .val (.ref tq)] [(.int j1), (.ref a1)])
    obtain ⟨cl2, Ar2, -, Sz2, Ng2, Hs2, Ft2⟩ := id V_a1
    have in2 : ¬ (j1 < 0 ∨ cl2.slots.size ≤ (j1).toNatClampNeg) := inb_of Sz2 p1.2
    have at2 : cl2.slots[(j1).toNatClampNeg]? = some (.ref t1) := Hs2.at in2 p1.1
    refine Go.step (fun _ k => X0.aaload hx (j := j1) (v := (.ref t1)) (by rw [e0]; exact Ar2.1) (State.isArrayOf_alike hZ.alike Ar2.2.1) rfl Ar2.2.2 in2 at2 (g := (mkF m 19 #[.val (.ref a1), .val (.int (1 : Int32)), .val (.int i1), .val (.int j1), .val (.int i2), .val (.int j2), .val (.int q), .val (.ref tq)] [(.int j1), (.ref a1)])) rfl rfl (hb hby d13_19) _ (XS.astore X0.here hx rfl (hb hby d13_20) rfl rfl (l' := #[.val (.ref a1), .val (.int (1 : Int32)), .val (.int i1), .val (.int j1), .val (.int i2), .val (.int j2), .val (.int q), .val (.ref t1)]) rfl (XS.iloadN X0.here hx rfl (hb hby d13_22) rfl (XS.iconst X0.here hx rfl (hb hby d13_23) (XS.icmpYes X0.here hx rfl (pc0 := 24) (pc' := 40) rfl (hb hby d13_24) rfl (tlt (by decide)).1 (by decide) (by decide) (XS.aload X0.here hx rfl (hb hby d13_40) rfl rfl k)))))) ?_
    show Go p e below s _ _ _ s₁ (mkF m 42 #[.val (.ref a1), .val (.int (1 : Int32)), .val (.int i1), .val (.int j1), .val (.int i2), .val (.int j2), .val (.int q), .val (.ref t1)] [(.ref t1)])
    exact Go.retA X0 hx hlk Bd.returns rfl rfl (hb hby d13_42) e0 ⟨(by rw [own_e1, if_pos h1]), N0, rfl⟩ (by decide) (by decide)
  · refine Go.step (fun _ k => XS.icmpYes X0.here hx rfl (pc0 := 14) (pc' := 22) rfl (hb hby d13_14) rfl (feq h1).2 (by decide) (by decide) (XS.iloadN X0.here hx rfl (hb hby d13_22) rfl (XS.iconst X0.here hx rfl (hb hby d13_23) (XS.icmpYes X0.here hx rfl (pc0 := 24) (pc' := 40) rfl (hb hby d13_24) rfl (tlt (by decide)).1 (by decide) (by decide) (XS.aload X0.here hx rfl (hb hby d13_40) rfl rfl k))))) ?_
    show Go p e below s _ _ _ s₁ (mkF m 42 #[.val (.ref a1), .val (.int (1 : Int32)), .val (.int i1), .val (.int j1), .val (.int i2), .val (.int j2), .val (.int q), .val (.ref tq)] [(.ref tq)])
    exact Go.retA X0 hx hlk Bd.returns rfl rfl (hb hby d13_42) e0 ⟨(by rw [own_e1, if_neg h1]), N0, rfl⟩ (by decide) (by decide)

theorem ef_expect2 (m : MethodId) (x0 : Addr) (x1 : Int32) (x2 : Int32) (x3 : Int32) (x4 : Int32) (x5 : Int32) (x6 : Int32) : entryFrame m #[(.ref x0), (.int x1), (.int x2), (.int x3), (.int x4), (.int x5), (.int x6)] 8 = mkF m 0 #[.val (.ref x0), .val (.int x1), .val (.int x2), .val (.int x3), .val (.int x4), .val (.int x5), .val (.int x6), .unset] [] := by first | (simp [entryFrame, mkF, argsToLocals, Value.category]; done) | rfl
def Q_expect2 (Z : State) (a1 : Addr) (i1 : Int32) (j1 : Int32) (i2 : Int32) (j2 : Int32) (q : Int32) (ka : ClassId) (c0 : Addr) (c1 : Addr) (c2 : Addr) (tq : Addr) (t1 : Addr) (t2 : Addr) (h0 : Heap) (n0 : Nat) (v : Option Value) (h : Heap) (L : List Loc) : Prop := v = some (.ref (own_e2 i1 i2 q tq t1 t2)) ∧ Fr n0 L ∧ h = h0
set_option maxRecDepth 65536 in
set_option maxHeartbeats 40000000 in
theorem rm_expect2 (l : Launch) (Z : State) (a0 : Array Value) (hw : ∀ d ∈ tables_1, d.before a0 Z = true) (ws : List Jvm.Cond) (a1 : Addr) (i1 : Int32) (j1 : Int32) (i2 : Int32) (j2 : Int32) (q : Int32) (ka : ClassId) (c0 : Addr) (c1 : Addr) (c2 : Addr) (tq : Addr) (t1 : Addr) (t2 : Addr) (h0 : Heap) (n0 : Nat) (Z0 : n0 ≤ h0.size) (V_a1 : Arv Z h0 a1 ka (.object xs9) (3 : Int32) [(.ref c0), (.ref c1), (.ref c2)] .null) (pq : ([(.ref c0), (.ref c1), (.ref c2)] : List Value).getD (q).toNatClampNeg .null = .ref tq ∧ (¬ q < 0 ∧ q < (3 : Int32))) (p1 : ([(.ref c0), (.ref c1), (.ref c2)] : List Value).getD (j1).toNatClampNeg .null = .ref t1 ∧ (¬ j1 < 0 ∧ j1 < (3 : Int32))) (p2 : ([(.ref c0), (.ref c1), (.ref c2)] : List Value).getD (j2).toNatClampNeg .null = .ref t2 ∧ (¬ j2 < 0 ∧ j2 < (3 : Int32))) :
    MetFree l xm19 (head1 (Jvm.Cond.code xm19 method_2_code 8 (some (.object xs13)) :: ws) xr15) (fun a U => a = #[(.ref a1), (.int (2 : Int32)), (.int i1), (.int j1), (.int i2), (.int j2), (.int q)] ∧ Z.Warmed39 U.vm ∧ U.heap = h0) (fun _ _ _ _ _ => True) (fun _ U o U' => ∃ v L, o = .returned v ∧ Q_expect2 Z a1 i1 j1 i2 j2 q ka c0 c1 c2 tq t1 t2 h0 n0 v U'.heap L ∧ FrameEnd U o U' L xr15.cells xr15.slots) := by
  refine MetFree.of_bodySF (plainFor_of_name pn_11) hisR ?_
  intro p e s m args below meth c s₁ Bd hml0 hP hK
  obtain ⟨rfl, hZ, hh⟩ := hP
  have hx := Bd.exec
  have hby := Bd.bytes
  have hlk : meth.locks = false := BodyLoose.notSynchronized Bd
  have hml : c.maxLocals = 8 := hml0
  have hown : s.vm.findClass xs3 = some m.cls := findClass_of_methodNamed Bd.named
  have hnm := (name_of_methodNamed Bd.named Bd.method).1
  have X0 : Stand p l e xr15 s m #[(.ref a1), (.int (2 : Int32)), (.int i1), (.int j1), (.int i2), (.int j2), (.int q)] below meth c s₁ [] 0 0 := Stand.of_body Bd
  have e0 : s₁.heap = h0 := by rw [← hh, Bd.state]; rfl
  have N0 := Fr.nil n0
  show Go p e below s (Q_expect2 Z a1 i1 j1 i2 j2 q ka c0 c1 c2 tq t1 t2 h0 n0) xr15.cells xr15.slots s₁ (entryFrame m #[(.ref a1), (.int (2 : Int32)), (.int i1), (.int j1), (.int i2), (.int j2), (.int q)] 8)
  refine Go.cast (ef_expect2 m a1 (2 : Int32) i1 j1 i2 j2 q) ?_
  show Go p e below s _ _ _ s₁ (mkF m 0 #[.val (.ref a1), .val (.int (2 : Int32)), .val (.int i1), .val (.int j1), .val (.int i2), .val (.int j2), .val (.int q), .unset] [])
  refine Go.step (fun _ k => XS.aloadN X0.here hx rfl (hb hby d13_0) rfl rfl (XS.iload X0.here hx rfl (hb hby d13_1) rfl k)) ?_
  show Go p e below s _ _ _ s₁ (mkF m 3 #[.val (.ref a1), .val (.int (2 : Int32)), .val (.int i1), .val (.int j1), .val (.int i2), .val (.int j2), .val (.int q), .unset] [(.int q), (.ref a1)])
  obtain ⟨cl1, Ar1, -, Sz1, Ng1, Hs1, Ft1⟩ := id V_a1
  have in1 : ¬ (q < 0 ∨ cl1.slots.size ≤ (q).toNatClampNeg) := inb_of Sz1 pq.2
  have at1 : cl1.slots[(q).toNatClampNeg]? = some (.ref tq) := Hs1.at in1 pq.1
  refine Go.step (fun _ k => X0.aaload hx (j := q) (v := (.ref tq)) (by rw [e0]; exact Ar1.1) (State.isArrayOf_alike hZ.alike Ar1.2.1) rfl Ar1.2.2 in1 at1 (g := (mkF m 3 #[.val (.ref a1), .val (.int (2 : Int32)), .val (.int i1), .val (.int j1), .val (.int i2), .val (.int j2), .val (.int q), .unset] [(.int q), (.ref a1)])) rfl rfl (hb hby d13_3) _ (XS.astore X0.here hx rfl (hb hby d13_4) rfl rfl (l' := #[.val (.ref a1), .val (.int (2 : Int32)), .val (.int i1), .val (.int j1), .val (.int i2), .val (.int j2), .val (.int q), .val (.ref tq)]) rfl (XS.iloadN X0.here hx rfl (hb hby d13_6) rfl (XS.iconst X0.here hx rfl (hb hby d13_7) (XS.icmpNo X0.here hx rfl (hb hby d13_8) rfl (flt (by decide)).1 (XS.iloadN X0.here hx rfl (hb hby d13_11) rfl (XS.iload X0.here hx rfl (hb hby d13_12) rfl k))))))) ?_
  show Go p e below s _ _ _ s₁ (mkF m 14 #[.val (.ref a1), .val (.int (2 : Int32)), .val (.int i1), .val (.int j1), .val (.int i2), .val (.int j2), .val (.int q), .val (.ref tq)] [(.int q), (.int i1)])
  by_cases h1 : i1 = q
  · refine Go.step (fun _ k => XS.icmpNo X0.here hx rfl (hb hby d13_14) rfl (teq h1).2 (XS.aloadN X0.here hx rfl (hb hby d13_17) rfl rfl (XS.iloadN X0.here hx rfl (hb hby d13_18) rfl k))) ?_
    show Go p e below s _ _ _ s₁ (mkF m 19 #[.val (.ref a1), .val (.int (2 : Int32)), .val (.int i1), .val (.int j1), .val (.int i2), .val (.int j2), .val (.int q), .val (.ref tq)] [(.int j1), (.ref a1)])
    obtain ⟨cl3, Ar3, -, Sz3, Ng3, Hs3, Ft3⟩ := id V_a1
    have in3 : ¬ (j1 < 0 ∨ cl3.slots.size ≤ (j1).toNatClampNeg) := inb_of Sz3 p1.2
    have at3 : cl3.slots[(j1).toNatClampNeg]? = some (.ref t1) := Hs3.at in3 p1.1
    refine Go.step (fun _ k => X0.aaload hx (j := j1) (v := (.ref t1)) (by rw [e0]; exact Ar3.1) (State.isArrayOf_alike hZ.alike Ar3.2.1) rfl Ar3.2.2 in3 at3 (g := (mkF m 19 #[.val (.ref a1), .val (.int (2 : Int32)), .val (.int i1), .val (.int j1), .val (.int i2), .val (.int j2), .val (.int q), .val (.ref tq)] [(.int j1), (.ref a1)])) rfl rfl (hb hby d13_19) _ (XS.astore X0.here hx rfl (hb hby d13_20) rfl rfl (l' := #[.val (.ref a1), .val (.int (2 : Int32)), .val (.int i1), .val (.int j1), .val (.int i2), .val (.int j2), .val (.int q), .val (.ref t1)]) rfl (XS.iloadN X0.here hx rfl (hb hby d13_22) rfl (XS.iconst X0.here hx rfl (hb hby d13_23) (XS.icmpNo X0.here hx rfl (hb hby d13_24) rfl (flt (by decide)).1 (XS.iload X0.here hx rfl (hb hby d13_27) rfl (XS.iload X0.here hx rfl (hb hby d13_29) rfl k))))))) ?_
    show Go p e below s _ _ _ s₁ (mkF m 31 #[.val (.ref a1), .val (.int (2 : Int32)), .val (.int i1), .val (.int j1), .val (.int i2), .val (.int j2), .val (.int q), .val (.ref t1)] [(.int q), (.int i2)])
    by_cases h2 : i2 = q
    · refine Go.step (fun _ k => XS.icmpNo X0.here hx rfl (hb hby d13_31) rfl (teq h2).2 (XS.aloadN X0.here hx rfl (hb hby d13_34) rfl rfl (XS.iload X0.here hx rfl (hb hby d13_35) rfl k))) ?_
      show Go p e below s _ _ _ s₁ (mkF m 37 #[.val (.ref a1), .val (.int (2 : Int32)), .val (.int i1), .val (.int j1), .val (.int i2), .val (.int j2), .val (.int q), .val (.ref t1)] [(.int j2), (.ref a1)])
      obtain ⟨cl4, Ar4, -, Sz4, Ng4, Hs4, Ft4⟩ := id V_a1
      have in4 : ¬ (j2 < 0 ∨ cl4.slots.size ≤ (j2).toNatClampNeg) := inb_of Sz4 p2.2
      have at4 : cl4.slots[(j2).toNatClampNeg]? = some (.ref t2) := Hs4.at in4 p2.1
      refine Go.step (fun _ k => X0.aaload hx (j := j2) (v := (.ref t2)) (by rw [e0]; exact Ar4.1) (State.isArrayOf_alike hZ.alike Ar4.2.1) rfl Ar4.2.2 in4 at4 (g := (mkF m 37 #[.val (.ref a1), .val (.int (2 : Int32)), .val (.int i1), .val (.int j1), .val (.int i2), .val (.int j2), .val (.int q), .val (.ref t1)] [(.int j2), (.ref a1)])) rfl rfl (hb hby d13_37) _ (XS.astore X0.here hx rfl (hb hby d13_38) rfl rfl (l' := #[.val (.ref a1), .val (.int (2 : Int32)), .val (.int i1), .val (.int j1), .val (.int i2), .val (.int j2), .val (.int q), .val (.ref t2)]) rfl (XS.aload X0.here hx rfl (hb hby d13_40) rfl rfl k))) ?_
      show Go p e below s _ _ _ s₁ (mkF m 42 #[.val (.ref a1), .val (.int (2 : Int32)), .val (.int i1), .val (.int j1), .val (.int i2), .val (.int j2), .val (.int q), .val (.ref t2)] [(.ref t2)])
      exact Go.retA X0 hx hlk Bd.returns rfl rfl (hb hby d13_42) e0 ⟨(by rw [own_e2, if_pos h2]), N0, rfl⟩ (by decide) (by decide)
    · refine Go.step (fun _ k => XS.icmpYes X0.here hx rfl (pc0 := 31) (pc' := 40) rfl (hb hby d13_31) rfl (feq h2).2 (by decide) (by decide) (XS.aload X0.here hx rfl (hb hby d13_40) rfl rfl k)) ?_
      show Go p e below s _ _ _ s₁ (mkF m 42 #[.val (.ref a1), .val (.int (2 : Int32)), .val (.int i1), .val (.int j1), .val (.int i2), .val (.int j2), .val (.int q), .val (.ref t1)] [(.ref t1)])
      exact Go.retA X0 hx hlk Bd.returns rfl rfl (hb hby d13_42) e0 ⟨(by rw [own_e2, if_neg h2, own_e1, if_pos h1]), N0, rfl⟩ (by decide) (by decide)
  · refine Go.step (fun _ k => XS.icmpYes X0.here hx rfl (pc0 := 14) (pc' := 22) rfl (hb hby d13_14) rfl (feq h1).2 (by decide) (by decide) (XS.iloadN X0.here hx rfl (hb hby d13_22) rfl (XS.iconst X0.here hx rfl (hb hby d13_23) (XS.icmpNo X0.here hx rfl (hb hby d13_24) rfl (flt (by decide)).1 (XS.iload X0.here hx rfl (hb hby d13_27) rfl (XS.iload X0.here hx rfl (hb hby d13_29) rfl k)))))) ?_
    show Go p e below s _ _ _ s₁ (mkF m 31 #[.val (.ref a1), .val (.int (2 : Int32)), .val (.int i1), .val (.int j1), .val (.int i2), .val (.int j2), .val (.int q), .val (.ref tq)] [(.int q), (.int i2)])
    by_cases h2 : i2 = q
    · refine Go.step (fun _ k => XS.icmpNo X0.here hx rfl (hb hby d13_31) rfl (teq h2).2 (XS.aloadN X0.here hx rfl (hb hby d13_34) rfl rfl (XS.iload X0.here hx rfl (hb hby d13_35) rfl k))) ?_
      show Go p e below s _ _ _ s₁ (mkF m 37 #[.val (.ref a1), .val (.int (2 : Int32)), .val (.int i1), .val (.int j1), .val (.int i2), .val (.int j2), .val (.int q), .val (.ref tq)] [(.int j2), (.ref a1)])
      obtain ⟨cl2, Ar2, -, Sz2, Ng2, Hs2, Ft2⟩ := id V_a1
      have in2 : ¬ (j2 < 0 ∨ cl2.slots.size ≤ (j2).toNatClampNeg) := inb_of Sz2 p2.2
      have at2 : cl2.slots[(j2).toNatClampNeg]? = some (.ref t2) := Hs2.at in2 p2.1
      refine Go.step (fun _ k => X0.aaload hx (j := j2) (v := (.ref t2)) (by rw [e0]; exact Ar2.1) (State.isArrayOf_alike hZ.alike Ar2.2.1) rfl Ar2.2.2 in2 at2 (g := (mkF m 37 #[.val (.ref a1), .val (.int (2 : Int32)), .val (.int i1), .val (.int j1), .val (.int i2), .val (.int j2), .val (.int q), .val (.ref tq)] [(.int j2), (.ref a1)])) rfl rfl (hb hby d13_37) _ (XS.astore X0.here hx rfl (hb hby d13_38) rfl rfl (l' := #[.val (.ref a1), .val (.int (2 : Int32)), .val (.int i1), .val (.int j1), .val (.int i2), .val (.int j2), .val (.int q), .val (.ref t2)]) rfl (XS.aload X0.here hx rfl (hb hby d13_40) rfl rfl k))) ?_
      show Go p e below s _ _ _ s₁ (mkF m 42 #[.val (.ref a1), .val (.int (2 : Int32)), .val (.int i1), .val (.int j1), .val (.int i2), .val (.int j2), .val (.int q), .val (.ref t2)] [(.ref t2)])
      exact Go.retA X0 hx hlk Bd.returns rfl rfl (hb hby d13_42) e0 ⟨(by rw [own_e2, if_pos h2]), N0, rfl⟩ (by decide) (by decide)
    · refine Go.step (fun _ k => XS.icmpYes X0.here hx rfl (pc0 := 31) (pc' := 40) rfl (hb hby d13_31) rfl (feq h2).2 (by decide) (by decide) (XS.aload X0.here hx rfl (hb hby d13_40) rfl rfl k)) ?_
      show Go p e below s _ _ _ s₁ (mkF m 42 #[.val (.ref a1), .val (.int (2 : Int32)), .val (.int i1), .val (.int j1), .val (.int i2), .val (.int j2), .val (.int q), .val (.ref tq)] [(.ref tq)])
      exact Go.retA X0 hx hlk Bd.returns rfl rfl (hb hby d13_42) e0 ⟨(by rw [own_e2, if_neg h2, own_e1, if_neg h1]), N0, rfl⟩ (by decide) (by decide)

theorem ef_ArrayList_Itr_new_0 (m : MethodId) (x0 : Addr) (x1 : Addr) : entryFrame m #[(.ref x0), (.ref x1)] 2 = mkF m 0 #[.val (.ref x0), .val (.ref x1)] [] := by first | (simp [entryFrame, mkF, argsToLocals, Value.category]; done) | rfl
def Q_ArrayList_Itr_new_0 (Z : State) (b284 : Addr) (b228 : Addr) (h0 : Heap) (n0 : Nat) (v : Option Value) (h : Heap) (L : List Loc) : Prop := v = none ∧ Fr n0 L ∧ Keep h0 h [b284] ∧ Fld Z h b284 xs24 "this$0" xs29 (.ref b228) ∧ Fld Z h b284 xs24 "lastRet" "I" (.int (-1 : Int32)) ∧ Fld Z h b284 xs24 xs44 "I" (.int (0 : Int32)) ∧ Fld Z h b284 xs24 "cursor" "I" (.int (0 : Int32))
set_option maxRecDepth 65536 in
set_option maxHeartbeats 40000000 in
theorem rm_ArrayList_Itr_new_0 (l : Launch) (Z : State) (a0 : Array Value) (hw : ∀ d ∈ tables_1, d.before a0 Z = true) (ws : List Jvm.Cond) (b284 : Addr) (b228 : Addr) (h0 : Heap) (n0 : Nat) (Z0 : n0 ≤ h0.size) (E_b284 : Exa Z h0 b284 xs24) (F_this_0_b284 : Fld Z h0 b284 xs24 "this$0" xs29 .null) (g_b284 : n0 ≤ b284) (F_lastRet_b284 : Fld Z h0 b284 xs24 "lastRet" "I" (.int (0 : Int32))) (F_modCount_b228 : Fld Z h0 b228 xs26 "modCount" "I" (.int (0 : Int32))) (ne_b228_b284 : b228 ≠ b284) (F_expectedModCount_b284 : Fld Z h0 b284 xs24 xs44 "I" (.int (0 : Int32))) (F_cursor_b284 : Fld Z h0 b284 xs24 "cursor" "I" (.int (0 : Int32))) :
    MetFree l xm12 (head1 (Jvm.Cond.code xm12 jdk_49_method_1_code 2 none :: ws) xr4) (fun a U => a = #[(.ref b284), (.ref b228)] ∧ Z.Warmed39 U.vm ∧ U.heap = h0) (fun _ _ _ _ _ => True) (fun _ U o U' => ∃ v L, o = .returned v ∧ Q_ArrayList_Itr_new_0 Z b284 b228 h0 n0 v U'.heap L ∧ FrameEnd U o U' L xr4.cells xr4.slots) := by
  refine MetFree.of_bodySF (plainFor_of_name pn_12) hisR ?_
  intro p e s m args below meth c s₁ Bd hml0 hP hK
  obtain ⟨rfl, hZ, hh⟩ := hP
  have hx := Bd.exec
  have hby := Bd.bytes
  have hlk : meth.locks = false := BodyLoose.notSynchronized Bd
  have hml : c.maxLocals = 2 := hml0
  have hown : s.vm.findClass xs24 = some m.cls := findClass_of_methodNamed Bd.named
  have hnm := (name_of_methodNamed Bd.named Bd.method).1
  have X0 : Stand p l e xr4 s m #[(.ref b284), (.ref b228)] below meth c s₁ [] 0 0 := Stand.of_body Bd
  have e0 : s₁.heap = h0 := by rw [← hh, Bd.state]; rfl
  have N0 := Fr.nil n0
  show Go p e below s (Q_ArrayList_Itr_new_0 Z b284 b228 h0 n0) xr4.cells xr4.slots s₁ (entryFrame m #[(.ref b284), (.ref b228)] 2)
  refine Go.cast (ef_ArrayList_Itr_new_0 m b284 b228) ?_
  show Go p e below s _ _ _ s₁ (mkF m 0 #[.val (.ref b284), .val (.ref b228)] [])
  refine Go.step (fun _ k => XS.aloadN X0.here hx rfl (hb hby d16_0) rfl rfl (XS.aloadN X0.here hx rfl (hb hby d16_1) rfl rfl k)) ?_
  show Go p e below s _ _ _ s₁ (mkF m 2 #[.val (.ref b284), .val (.ref b228)] [(.ref b228), (.ref b284)])
  obtain ⟨T289, h289, X289, e289, W289, st289⟩ := putF X0 hx hZ hown (host := "") (Or.inl (tw139 hw)) Via.refl e0 F_this_0_b284 E_b284 (Or.inr ⟨(tw140 hw), rfl, hnm⟩) (tw133 hw) (ty := (.object xs37)) (by decide) rfl rfl (g := (mkF m 2 #[.val (.ref b284), .val (.ref b228)] [(.ref b228), (.ref b284)])) rfl rfl (hb hby d16_2)
  have f291 := F_this_0_b284.same W289
  have N292 := Fr.snoc X289 N0 g_b284
  refine Go.step (fun _ k => st289 _ (XS.aloadN X289.here hx rfl (hb hby d16_5) rfl rfl k)) ?_
  show Go p e below s _ _ _ T289 (mkF m 6 #[.val (.ref b284), .val (.ref b228)] [(.ref b284)])
  obtain ⟨T293, X293, e293, st293⟩ := initO X289 hx hZ hown (tw141 hw) (tw33 hw) (tw34 hw) e289 (g := (mkF m 6 #[.val (.ref b284), .val (.ref b228)] [(.ref b284)])) rfl (by rw [hml]; rfl) rfl (hb hby d16_6) (by decide) (W := 0) (by show 2 * 0 + _ ≤ _; exact Nat.le_of_eq rfl) (by decide)
  refine Go.step (fun _ k => st293 _ (XS.aloadN X293.here hx rfl (hb hby d16_9) rfl rfl (XS.iconst X293.here hx rfl (hb hby d16_10) k))) ?_
  show Go p e below s _ _ _ T293 (mkF m 11 #[.val (.ref b284), .val (.ref b228)] [(.int (-1 : Int32)), (.ref b284)])
  have f294 := (F_lastRet_b284.other W289 (Or.inr (slot_ne (Or.inl (tw143 hw)) (Or.inr (tw140 hw)) (by decide) (t := .int) (t' := (.object xs37)) (by decide) (by decide))))
  have f295 := (E_b284.wr W289)
  obtain ⟨T296, h296, X296, e296, W296, st296⟩ := putF X293 hx hZ hown (host := "") (Or.inl (tw142 hw)) Via.refl e293 f294 f295 (Or.inl (tw143 hw)) (tw133 hw) (ty := .int) (by decide) rfl rfl (g := (mkF m 11 #[.val (.ref b284), .val (.ref b228)] [(.int (-1 : Int32)), (.ref b284)])) rfl rfl (hb hby d16_11)
  have f297 := f294.same W296
  have N298 := Fr.snoc X296 N292 g_b284
  refine Go.step (fun _ k => st296 _ (XS.aloadN X296.here hx rfl (hb hby d16_14) rfl rfl (XS.aloadN X296.here hx rfl (hb hby d16_15) rfl rfl k))) ?_
  show Go p e below s _ _ _ T296 (mkF m 16 #[.val (.ref b284), .val (.ref b228)] [(.ref b284), (.ref b284)])
  have f299 := (f291.other W296 (Or.inr (slot_ne (Or.inr (tw140 hw)) (Or.inl (tw143 hw)) (by decide) (t := (.object xs37)) (t' := .int) (by decide) (by decide))))
  obtain ⟨T300, X300, e300, st300⟩ := getF X296 hx hZ hown (host := "") (Or.inl (tw139 hw)) Via.refl e296 f299 (g := (mkF m 16 #[.val (.ref b284), .val (.ref b228)] [(.ref b284), (.ref b284)])) rfl rfl (hb hby d16_16)
  refine Go.step (fun _ k => st300 _ k) ?_
  show Go p e below s _ _ _ T300 (mkF m 19 #[.val (.ref b284), .val (.ref b228)] [(.ref b228), (.ref b284)])
  have f302 := ((F_modCount_b228.other W289 (Or.inl ne_b228_b284)).other W296 (Or.inl ne_b228_b284))
  obtain ⟨T303, X303, e303, st303⟩ := getF X300 hx hZ hown (host := "") (Or.inl (tw144 hw)) (Via.of (tw145 hw)) e300 f302 (g := (mkF m 19 #[.val (.ref b284), .val (.ref b228)] [(.ref b228), (.ref b284)])) rfl rfl (hb hby d16_19)
  refine Go.step (fun _ k => st303 _ k) ?_
  show Go p e below s _ _ _ T303 (mkF m 22 #[.val (.ref b284), .val (.ref b228)] [(.int (0 : Int32)), (.ref b284)])
  have f304 := ((F_expectedModCount_b284.other W289 (Or.inr (slot_ne (Or.inl (tw147 hw)) (Or.inr (tw140 hw)) (by decide) (t := .int) (t' := (.object xs37)) (by decide) (by decide)))).other W296 (Or.inr (slot_ne (Or.inl (tw147 hw)) (Or.inl (tw143 hw)) (by decide) (t := .int) (t' := .int) (by decide) (by decide))))
  have f305 := (f295.wr W296)
  obtain ⟨T306, h306, X306, e306, W306, st306⟩ := putF X303 hx hZ hown (host := "") (Or.inl (tw146 hw)) Via.refl e303 f304 f305 (Or.inl (tw147 hw)) (tw133 hw) (ty := .int) (by decide) rfl rfl (g := (mkF m 22 #[.val (.ref b284), .val (.ref b228)] [(.int (0 : Int32)), (.ref b284)])) rfl rfl (hb hby d16_22)
  have f307 := f304.same W306
  have N308 := Fr.snoc X306 N298 g_b284
  refine Go.step (fun _ k => st306 _ k) ?_
  show Go p e below s _ _ _ T306 (mkF m 25 #[.val (.ref b284), .val (.ref b228)] [])
  have f309 := ((((Keep.refl h0 [b284]).wr W289 (Or.inl (List.mem_of_getElem? (i := 0) rfl))).wr W296 (Or.inl (List.mem_of_getElem? (i := 0) rfl))).wr W306 (Or.inl (List.mem_of_getElem? (i := 0) rfl)))
  have f310 := (f299.other W306 (Or.inr (slot_ne (Or.inr (tw140 hw)) (Or.inl (tw147 hw)) (by decide) (t := (.object xs37)) (t' := .int) (by decide) (by decide))))
  have f311 := (f297.other W306 (Or.inr (slot_ne (Or.inl (tw143 hw)) (Or.inl (tw147 hw)) (by decide) (t := .int) (t' := .int) (by decide) (by decide))))
  have f312 := (((F_cursor_b284.other W289 (Or.inr (slot_ne (Or.inl (tw156 hw)) (Or.inr (tw140 hw)) (by decide) (t := .int) (t' := (.object xs37)) (by decide) (by decide)))).other W296 (Or.inr (slot_ne (Or.inl (tw156 hw)) (Or.inl (tw143 hw)) (by decide) (t := .int) (t' := .int) (by decide) (by decide)))).other W306 (Or.inr (slot_ne (Or.inl (tw156 hw)) (Or.inl (tw147 hw)) (by decide) (t := .int) (t' := .int) (by decide) (by decide))))
  have f313 := (Nat.le_trans (Nat.le_trans (Nat.le_trans (Nat.le_refl _) (Keep.of_wr W289).1) (Keep.of_wr W296).1) (Keep.of_wr W306).1)
  exact Go.retV X306 hx hlk Bd.returns (hb hby d16_25) e306 ⟨rfl, N308, f309, f310, f311, f307, f312⟩ (by decide) (by decide)

theorem ef_ArrayList_iterator_0 (m : MethodId) (x0 : Addr) : entryFrame m #[(.ref x0)] 1 = mkF m 0 #[.val (.ref x0)] [] := by first | (simp [entryFrame, mkF, argsToLocals, Value.category]; done) | rfl
def Q_ArrayList_iterator_0 (Z : State) (b228 : Addr) (h0 : Heap) (n0 : Nat) (v : Option Value) (h : Heap) (L : List Loc) : Prop := ∃ (b284 : Addr), v = some (.ref b284) ∧ Fr n0 L ∧ Keep h0 h [] ∧ h0.size ≤ b284 ∧ Exa Z h b284 xs24 ∧ Fld Z h b284 xs24 "this$0" xs29 (.ref b228) ∧ Fld Z h b284 xs24 "lastRet" "I" (.int (-1 : Int32)) ∧ Fld Z h b284 xs24 xs44 "I" (.int (0 : Int32)) ∧ Fld Z h b284 xs24 "cursor" "I" (.int (0 : Int32))
set_option maxRecDepth 65536 in
set_option maxHeartbeats 40000000 in
theorem rm_ArrayList_iterator_0 (l : Launch) (Z : State) (a0 : Array Value) (hw : ∀ d ∈ tables_1, d.before a0 Z = true) (ws : List Jvm.Cond) (b228 : Addr) (h0 : Heap) (n0 : Nat) (Z0 : n0 ≤ h0.size) (F_modCount_b228 : Fld Z h0 b228 xs26 "modCount" "I" (.int (0 : Int32))) :
    MetFree l xm4 (head1 (Jvm.Cond.code xm4 jdk_38_method_55_code 1 (some (.object xs39)) :: ws) xr12) (fun a U => a = #[(.ref b228)] ∧ Z.Warmed39 U.vm ∧ U.heap = h0) (fun _ _ _ _ _ => True) (fun _ U o U' => ∃ v L, o = .returned v ∧ Q_ArrayList_iterator_0 Z b228 h0 n0 v U'.heap L ∧ FrameEnd U o U' L xr12.cells xr12.slots) := by
  refine MetFree.of_bodySF (plainFor_of_name pn_9) hisR ?_
  intro p e s m args below meth c s₁ Bd hml0 hP hK
  obtain ⟨rfl, hZ, hh⟩ := hP
  have hx := Bd.exec
  have hby := Bd.bytes
  have hlk : meth.locks = false := BodyLoose.notSynchronized Bd
  have hml : c.maxLocals = 1 := hml0
  have hown : s.vm.findClass xs37 = some m.cls := findClass_of_methodNamed Bd.named
  have hnm := (name_of_methodNamed Bd.named Bd.method).1
  have X0 : Stand p l e xr12 s m #[(.ref b228)] below meth c s₁ [] 0 0 := Stand.of_body Bd
  have e0 : s₁.heap = h0 := by rw [← hh, Bd.state]; rfl
  have N0 := Fr.nil n0
  show Go p e below s (Q_ArrayList_iterator_0 Z b228 h0 n0) xr12.cells xr12.slots s₁ (entryFrame m #[(.ref b228)] 1)
  refine Go.cast (ef_ArrayList_iterator_0 m b228) ?_
  show Go p e below s _ _ _ s₁ (mkF m 0 #[.val (.ref b228)] [])
  obtain ⟨T284, h284, X284, e284, E284, A284, D284, -, st284⟩ := newO X0 hx hZ hown (tw132 hw) (tw133 hw) (tw134 hw) e0 (g := (mkF m 0 #[.val (.ref b228)] [])) rfl (hb hby d15_0) (by decide) (by decide)
  obtain ⟨b284, g284⟩ : ∃ z, z = h0.size := ⟨_, rfl⟩
  rw [← g284] at A284 D284 st284
  have f285 : Fld Z h284 b284 xs24 "this$0" xs29 .null := D284 (Or.inr (tw140 hw)) (ty := (.object xs37)) (by decide)
  have f286 : Fld Z h284 b284 xs24 "lastRet" "I" (.int (0 : Int32)) := D284 (Or.inl (tw143 hw)) (ty := .int) (by decide)
  have f287 : Fld Z h284 b284 xs24 xs44 "I" (.int (0 : Int32)) := D284 (Or.inl (tw147 hw)) (ty := .int) (by decide)
  have f288 : Fld Z h284 b284 xs24 "cursor" "I" (.int (0 : Int32)) := D284 (Or.inl (tw156 hw)) (ty := .int) (by decide)
  refine Go.step (fun _ k => st284 _ (XS.dup X284.here hx rfl (hb hby d15_3) rfl rfl (XS.aloadN X284.here hx rfl (hb hby d15_4) rfl rfl k))) ?_
  show Go p e below s _ _ _ T284 (mkF m 5 #[.val (.ref b228)] [(.ref b228), (.ref b284), (.ref b284)])
  have g290 := Nat.le_trans Z0 (Nat.le_of_eq g284.symm)
  have ne301 : b228 ≠ b284 := Nat.ne_of_lt (Nat.lt_of_lt_of_le F_modCount_b228.lt (Nat.le_of_eq g284.symm))
  have f314 := (Nat.le_trans Z0 E284.1)
  have f315 := (F_modCount_b228.ext E284)
  obtain ⟨_, _, ⟨T316, L316, k316, n316⟩, -, X316, ⟨Lc316, hQ316, l316, y316, z316⟩, st316⟩ := X284.specialBack hx (y := xm12) rfl hown (mvT hZ (tw135 hw)) (mvT hZ (tw136 hw)) (mvT hZ (tw138 hw)) (by decide) (backOf (W := 1) (rm_ArrayList_Itr_new_0 l Z a0 hw [] b284 b228 h284 n0 f314 A284 f285 g290 f286 f315 ne301 f287 f288) hZ (tw138 hw) (tw134 hw) (by decide) (by decide)) (g := (mkF m 5 #[.val (.ref b228)] [(.ref b228), (.ref b284), (.ref b284)])) rfl (by rw [hml]; rfl) (Steps.refl _) (a := b284) (argsL := [(.ref b228)]) (rest := [(.ref b284)]) (lenOf pd_8 rfl) rfl (by show 2 * 0 + _ ≤ _; exact Nat.le_of_eq rfl) (hb hby d15_5) (fun _ _ => ⟨rfl, e284, (by decide : 1 + 0 ≤ _), (by decide : 4 + 0 ≤ _)⟩)
  dsimp only [Pt.U, Pt.locs, Pt.cells, Pt.slots] at X316 l316 y316 z316 st316 hQ316
  subst l316 y316 z316
  obtain ⟨rfl, N316q, K316, P316_0, P316_1, P316_2, P316_3⟩ := hQ316
  have N317 := Fr.app N0 N316q
  refine Go.step (fun _ k => st316.trans k) ?_
  show Go p e below s _ _ _ T316 (mkF m 8 #[.val (.ref b228)] [(.ref b284)])
  have z318 := Nat.le_trans (Nat.le_refl _) (Nat.le_of_eq g284.symm)
  have f319 := (((Keep.refl h0 []).ext E284).trans K316 (allS (Or.inr z318) all0))
  have f320 := (A284.keep K316)
  have f321 := (Nat.le_trans (Nat.le_trans (Nat.le_refl _) E284.1) K316.1)
  exact Go.retA X316 hx hlk Bd.returns rfl rfl (hb hby d15_8) rfl ⟨b284, rfl, N317, f319, z318, f320, P316_0, P316_1, P316_2, P316_3⟩ (by decide) (by decide)

theorem ef_ArrayList_Itr_hasNext_0 (m : MethodId) (x0 : Addr) : entryFrame m #[(.ref x0)] 1 = mkF m 0 #[.val (.ref x0)] [] := by first | (simp [entryFrame, mkF, argsToLocals, Value.category]; done) | rfl
def Q_ArrayList_Itr_hasNext_0 (Z : State) (b284_326 : Addr) (b228 : Addr) (h0 : Heap) (n0 : Nat) (v : Option Value) (h : Heap) (L : List Loc) : Prop := v = some (.int (0 : Int32)) ∧ Fr n0 L ∧ h = h0
set_option maxRecDepth 65536 in
set_option maxHeartbeats 40000000 in
theorem rm_ArrayList_Itr_hasNext_0 (l : Launch) (Z : State) (a0 : Array Value) (hw : ∀ d ∈ tables_1, d.before a0 Z = true) (ws : List Jvm.Cond) (b284_326 : Addr) (b228 : Addr) (h0 : Heap) (n0 : Nat) (Z0 : n0 ≤ h0.size) (F_cursor_b284_326 : Fld Z h0 b284_326 xs24 "cursor" "I" (.int (0 : Int32))) (F_this_0_b284_326 : Fld Z h0 b284_326 xs24 "this$0" xs29 (.ref b228)) (F_size_b228 : Fld Z h0 b228 xs37 "size" "I" (.int (0 : Int32))) :
    MetFree l xm5 (head1 (Jvm.Cond.code xm5 jdk_49_method_2_code 1 (some .boolean) :: ws) xr15) (fun a U => a = #[(.ref b284_326)] ∧ Z.Warmed39 U.vm ∧ U.heap = h0) (fun _ _ _ _ _ => True) (fun _ U o U' => ∃ v L, o = .returned v ∧ Q_ArrayList_Itr_hasNext_0 Z b284_326 b228 h0 n0 v U'.heap L ∧ FrameEnd U o U' L xr15.cells xr15.slots) := by
  refine MetFree.of_bodySF (plainFor_of_name pn_12) hisR ?_
  intro p e s m args below meth c s₁ Bd hml0 hP hK
  obtain ⟨rfl, hZ, hh⟩ := hP
  have hx := Bd.exec
  have hby := Bd.bytes
  have hlk : meth.locks = false := BodyLoose.notSynchronized Bd
  have hml : c.maxLocals = 1 := hml0
  have hown : s.vm.findClass xs24 = some m.cls := findClass_of_methodNamed Bd.named
  have hnm := (name_of_methodNamed Bd.named Bd.method).1
  have X0 : Stand p l e xr15 s m #[(.ref b284_326)] below meth c s₁ [] 0 0 := Stand.of_body Bd
  have e0 : s₁.heap = h0 := by rw [← hh, Bd.state]; rfl
  have N0 := Fr.nil n0
  show Go p e below s (Q_ArrayList_Itr_hasNext_0 Z b284_326 b228 h0 n0) xr15.cells xr15.slots s₁ (entryFrame m #[(.ref b284_326)] 1)
  refine Go.cast (ef_ArrayList_Itr_hasNext_0 m b284_326) ?_
  show Go p e below s _ _ _ s₁ (mkF m 0 #[.val (.ref b284_326)] [])
  refine Go.step (fun _ k => XS.aloadN X0.here hx rfl (hb hby d17_0) rfl rfl k) ?_
  show Go p e below s _ _ _ s₁ (mkF m 1 #[.val (.ref b284_326)] [(.ref b284_326)])
  obtain ⟨T329, X329, e329, st329⟩ := getF X0 hx hZ hown (host := "") (Or.inl (tw155 hw)) Via.refl e0 F_cursor_b284_326 (g := (mkF m 1 #[.val (.ref b284_326)] [(.ref b284_326)])) rfl rfl (hb hby d17_1)
  refine Go.step (fun _ k => st329 _ (XS.aloadN X329.here hx rfl (hb hby d17_4) rfl rfl k)) ?_
  show Go p e below s _ _ _ T329 (mkF m 5 #[.val (.ref b284_326)] [(.ref b284_326), (.int (0 : Int32))])
  obtain ⟨T330, X330, e330, st330⟩ := getF X329 hx hZ hown (host := "") (Or.inl (tw139 hw)) Via.refl e329 F_this_0_b284_326 (g := (mkF m 5 #[.val (.ref b284_326)] [(.ref b284_326), (.int (0 : Int32))])) rfl rfl (hb hby d17_5)
  refine Go.step (fun _ k => st330 _ k) ?_
  show Go p e below s _ _ _ T330 (mkF m 8 #[.val (.ref b284_326)] [(.ref b228), (.int (0 : Int32))])
  obtain ⟨T331, X331, e331, st331⟩ := getF X330 hx hZ hown (Or.inr (tw157 hw)) Via.refl e330 F_size_b228 (g := (mkF m 8 #[.val (.ref b284_326)] [(.ref b228), (.int (0 : Int32))])) rfl rfl (hb hby d17_8)
  refine Go.step (fun _ k => st331 _ (XS.icmpYes X331.here hx rfl (pc0 := 11) (pc' := 18) rfl (hb hby d17_11) rfl (teq (by decide)).1 (by decide) (by decide) (XS.iconst X331.here hx rfl (hb hby d17_18) k))) ?_
  show Go p e below s _ _ _ T331 (mkF m 19 #[.val (.ref b284_326)] [(.int (0 : Int32))])
  exact Go.retN X331 hx hlk (t := .boolean) Bd.returns (by simp) (hb hby d17_19) e331 ⟨rfl, N0, rfl⟩ (by decide) (by decide)

theorem ef_Substitution_new_0 (m : MethodId) (x0 : Addr) (x1 : Int32) (x2 : Addr) : entryFrame m #[(.ref x0), (.int x1), (.ref x2)] 5 = mkF m 0 #[.val (.ref x0), .val (.int x1), .val (.ref x2), .unset, .unset] [] := by first | (simp [entryFrame, mkF, argsToLocals, Value.category]; done) | rfl
def Q_Substitution_new_0 (Z : State) (b272 : Addr) (b228 : Addr) (h0 : Heap) (n0 : Nat) (v : Option Value) (h : Heap) (L : List Loc) : Prop := ∃ (b275 : Addr) (k275 : ClassId), v = none ∧ Fr n0 L ∧ Keep h0 h [b272] ∧ Fld Z h b272 xs4 "replacements" xs11 (.ref b275) ∧ h0.size ≤ b275 ∧ Arv Z h b275 k275 (.object xs13) (3 : Int32) [.null, .null, .null] .null ∧ Ovr Z k275 xs13
set_option maxRecDepth 65536 in
set_option maxHeartbeats 40000000 in
theorem rm_Substitution_new_0 (l : Launch) (Z : State) (a0 : Array Value) (hw : ∀ d ∈ tables_1, d.before a0 Z = true) (ws : List Jvm.Cond) (b272 : Addr) (b228 : Addr) (h0 : Heap) (n0 : Nat) (Z0 : n0 ≤ h0.size) (E_b272 : Exa Z h0 b272 xs4) (F_replacements_b272 : Fld Z h0 b272 xs4 "replacements" xs11 .null) (g_b272 : n0 ≤ b272) (E_b228 : Exa Z h0 b228 xs37) (F_modCount_b228 : Fld Z h0 b228 xs26 "modCount" "I" (.int (0 : Int32))) (ne_b228_b272 : b228 ≠ b272) (F_size_b228 : Fld Z h0 b228 xs37 "size" "I" (.int (0 : Int32))) :
    MetFree l xm18 (head1 (Jvm.Cond.code xm18 prog_108_method_1_code 5 none :: ws) xr13) (fun a U => a = #[(.ref b272), (.int (3 : Int32)), (.ref b228)] ∧ Z.Warmed39 U.vm ∧ U.heap = h0) (fun _ _ _ _ _ => True) (fun _ U o U' => ∃ v L, o = .returned v ∧ Q_Substitution_new_0 Z b272 b228 h0 n0 v U'.heap L ∧ FrameEnd U o U' L xr13.cells xr13.slots) := by
  refine MetFree.of_bodySF (plainFor_of_name pn_10) hisR ?_
  intro p e s m args below meth c s₁ Bd hml0 hP hK
  obtain ⟨rfl, hZ, hh⟩ := hP
  have hx := Bd.exec
  have hby := Bd.bytes
  have hlk : meth.locks = false := BodyLoose.notSynchronized Bd
  have hml : c.maxLocals = 5 := hml0
  have hown : s.vm.findClass xs4 = some m.cls := findClass_of_methodNamed Bd.named
  have hnm := (name_of_methodNamed Bd.named Bd.method).1
  have X0 : Stand p l e xr13 s m #[(.ref b272), (.int (3 : Int32)), (.ref b228)] below meth c s₁ [] 0 0 := Stand.of_body Bd
  have e0 : s₁.heap = h0 := by rw [← hh, Bd.state]; rfl
  have N0 := Fr.nil n0
  show Go p e below s (Q_Substitution_new_0 Z b272 b228 h0 n0) xr13.cells xr13.slots s₁ (entryFrame m #[(.ref b272), (.int (3 : Int32)), (.ref b228)] 5)
  refine Go.cast (ef_Substitution_new_0 m b272 (3 : Int32) b228) ?_
  show Go p e below s _ _ _ s₁ (mkF m 0 #[.val (.ref b272), .val (.int (3 : Int32)), .val (.ref b228), .unset, .unset] [])
  refine Go.step (fun _ k => XS.aloadN X0.here hx rfl (hb hby d14_0) rfl rfl k) ?_
  show Go p e below s _ _ _ s₁ (mkF m 1 #[.val (.ref b272), .val (.int (3 : Int32)), .val (.ref b228), .unset, .unset] [(.ref b272)])
  obtain ⟨T274, X274, e274, st274⟩ := initO X0 hx hZ hown (tw120 hw) (tw33 hw) (tw34 hw) e0 (g := (mkF m 1 #[.val (.ref b272), .val (.int (3 : Int32)), .val (.ref b228), .unset, .unset] [(.ref b272)])) rfl (by rw [hml]; rfl) rfl (hb hby d14_1) (by decide) (W := 0) (by show 2 * 0 + _ ≤ _; exact Nat.le_of_eq rfl) (by decide)
  refine Go.step (fun _ k => st274 _ (XS.aloadN X274.here hx rfl (hb hby d14_4) rfl rfl (XS.iloadN X274.here hx rfl (hb hby d14_5) rfl k))) ?_
  show Go p e below s _ _ _ T274 (mkF m 6 #[.val (.ref b272), .val (.int (3 : Int32)), .val (.ref b228), .unset, .unset] [(.int (3 : Int32)), (.ref b272)])
  obtain ⟨T275, h275, k275, X275, e275, E275, A275, O275, st275⟩ := newR X274 hx hZ hown (tw121 hw) (tw122 hw) e274 (g := (mkF m 6 #[.val (.ref b272), .val (.int (3 : Int32)), .val (.ref b228), .unset, .unset] [(.int (3 : Int32)), (.ref b272)])) rfl (hb hby d14_6) rfl (by decide) (cap := 3) (by decide) (by decide) (by decide) (by decide)
  obtain ⟨b275, g275⟩ : ∃ z, z = h0.size := ⟨_, rfl⟩
  rw [← g275] at A275 st275
  have f276 : Arv Z h275 b275 k275 (.object xs13) (3 : Int32) [.null, .null, .null] .null := (Arv.new A275 (by decide)).pad (pad_rep [] .null 3)
  refine Go.step (fun _ k => st275 _ k) ?_
  show Go p e below s _ _ _ T275 (mkF m 9 #[.val (.ref b272), .val (.int (3 : Int32)), .val (.ref b228), .unset, .unset] [(.ref b275), (.ref b272)])
  have f277 := (F_replacements_b272.ext E275)
  have f278 := (E_b272.ext E275)
  obtain ⟨T279, h279, X279, e279, W279, st279⟩ := putF X275 hx hZ hown (host := "") (Or.inl (tw123 hw)) Via.refl e275 f277 f278 (Or.inr ⟨(tw124 hw), rfl, hnm⟩) (tw115 hw) (ty := (.array (.object xs13))) (by decide) rfl rfl (g := (mkF m 9 #[.val (.ref b272), .val (.int (3 : Int32)), .val (.ref b228), .unset, .unset] [(.ref b275), (.ref b272)])) rfl rfl (hb hby d14_9)
  have f282 := f277.same W279
  have N283 := Fr.snoc X279 N0 g_b272
  refine Go.step (fun _ k => st279 _ (XS.aloadN X279.here hx rfl (hb hby d14_12) rfl rfl k)) ?_
  show Go p e below s _ _ _ T279 (mkF m 13 #[.val (.ref b272), .val (.int (3 : Int32)), .val (.ref b228), .unset, .unset] [(.ref b228)])
  have f322 := (Nat.le_trans (Nat.le_trans Z0 E275.1) (Keep.of_wr W279).1)
  have f325 := ((F_modCount_b228.ext E275).other W279 (Or.inl ne_b228_b272))
  have f327 := ((E_b228.ext E275).wr W279)
  obtain ⟨cq326, kq326, q326a, q326b, q326c⟩ := isOf hZ e279 f327
  obtain ⟨_, _, ⟨T326, L326, k326, n326⟩, -, X326, ⟨Lc326, hQ326, l326, y326, z326⟩, st326⟩ := X279.interfaceBack hx (xi := xm2) (y := xm4) hown (mvT hZ (tw125 hw)) (mvT hZ (tw36 hw)) (mvT hZ (tw37 hw)) (mvT hZ (tw126 hw)) (mvT hZ (tw127 hw)) (mvT hZ (tw128 hw)) (mvT hZ (tw129 hw)) (mvT hZ (tw130 hw)) (by decide) (backOf (W := 0) (rm_ArrayList_iterator_0 l Z a0 hw [] b228 h279 n0 f322 f325) hZ (tw131 hw) (tw92 hw) (by decide) (by decide)) q326a q326b q326c (g := (mkF m 13 #[.val (.ref b272), .val (.int (3 : Int32)), .val (.ref b228), .unset, .unset] [(.ref b228)])) rfl (by rw [hml]; rfl) (Steps.refl _) (argsL := []) (rest := []) (lenOf pd_3 rfl) rfl (by show 2 * 0 + _ ≤ _; exact Nat.le_of_eq rfl) (hb hby d14_13) (fun _ _ => ⟨rfl, e279, (by decide : 1 + 1 ≤ _), (by decide : 3 + 4 ≤ _)⟩)
  dsimp only [Pt.U, Pt.locs, Pt.cells, Pt.slots] at X326 l326 y326 z326 st326 hQ326
  subst l326 y326 z326
  obtain ⟨b284_326, rfl, N326q, K326, P326_0, P326_1, P326_2, P326_3, P326_4, P326_5⟩ := hQ326
  have N328 := Fr.app N283 N326q
  refine Go.step (fun _ k => st326.trans (XS.astoreN X326.here hx rfl (hb hby d14_18) rfl rfl (l' := #[.val (.ref b272), .val (.int (3 : Int32)), .val (.ref b228), .val (.ref b284_326), .unset]) rfl (XS.aloadN X326.here hx rfl (hb hby d14_19) rfl rfl k))) ?_
  show Go p e below s _ _ _ T326 (mkF m 20 #[.val (.ref b272), .val (.int (3 : Int32)), .val (.ref b228), .val (.ref b284_326), .unset] [(.ref b284_326)])
  have f332 := (Nat.le_trans f322 K326.1)
  have f333 := (((F_size_b228.ext E275).other W279 (Or.inl ne_b228_b272)).keep K326 nin0)
  obtain ⟨cq334, kq334, q334a, q334b, q334c⟩ := isOf hZ rfl P326_1
  obtain ⟨_, _, ⟨T334, L334, k334, n334⟩, -, X334, ⟨Lc334, hQ334, l334, y334, z334⟩, st334⟩ := X326.interfaceBack hx (xi := xm3) (y := xm5) hown (mvT hZ (tw148 hw)) (mvT hZ (tw71 hw)) (mvT hZ (tw72 hw)) (mvT hZ (tw149 hw)) (mvT hZ (tw150 hw)) (mvT hZ (tw151 hw)) (mvT hZ (tw152 hw)) (mvT hZ (tw153 hw)) (by decide) (backOf (W := 0) (rm_ArrayList_Itr_hasNext_0 l Z a0 hw [] b284_326 b228 T326.heap n0 f332 P326_5 P326_2 f333) hZ (tw154 hw) (tw134 hw) (by decide) (by decide)) q334a q334b q334c (g := (mkF m 20 #[.val (.ref b272), .val (.int (3 : Int32)), .val (.ref b228), .val (.ref b284_326), .unset] [(.ref b284_326)])) rfl (by rw [hml]; rfl) (Steps.refl _) (argsL := []) (rest := []) (lenOf pd_4 rfl) rfl (by show 2 * 0 + _ ≤ _; exact Nat.le_of_eq rfl) (hb hby d14_20) (fun _ _ => ⟨rfl, rfl, (by decide : 2 + 0 ≤ _), (by decide : 7 + 0 ≤ _)⟩)
  dsimp only [Pt.U, Pt.locs, Pt.cells, Pt.slots] at X334 l334 y334 z334 st334 hQ334
  subst l334 y334 z334
  obtain ⟨rfl, N334q, eq334⟩ := hQ334
  have N335 := Fr.app N328 N334q
  refine Go.step (fun _ k => st334.trans (XS.ifYes X334.here hx rfl (pc0 := 25) (pc' := 60) rfl (hb hby d14_25) rfl ((if0 _ _).trans (teq (by decide)).1) (by decide) (by decide) k)) ?_
  show Go p e below s _ _ _ T334 (mkF m 60 #[.val (.ref b272), .val (.int (3 : Int32)), .val (.ref b228), .val (.ref b284_326), .unset] [])
  have f336 := ((((Keep.refl h0 [b272]).ext E275).wr W279 (Or.inl (List.mem_of_getElem? (i := 0) rfl))).trans K326 all0)
  have f337 := (f282.keep K326 nin0)
  have z338 := Nat.le_trans (Nat.le_refl _) (Nat.le_of_eq g275.symm)
  have ne339 : b272 ≠ b275 := Nat.ne_of_lt (Nat.lt_of_lt_of_le E_b272.lt (Nat.le_of_eq g275.symm))
  have f340 := ((f276.other W279 (Ne.symm ne339)).keep K326 nin0)
  have f341 := (Nat.le_trans (Nat.le_trans (Nat.le_trans (Nat.le_refl _) E275.1) (Keep.of_wr W279).1) K326.1)
  exact Go.retV X334 hx hlk Bd.returns (hb hby d14_60) eq334 ⟨b275, k275, rfl, N335, f336, f337, z338, f340, O275⟩ (by decide) (by decide)

theorem ef_Assignment_new_0 (m : MethodId) (x0 : Addr) (x1 : Addr) (x2 : Addr) : entryFrame m #[(.ref x0), (.ref x1), (.ref x2)] 3 = mkF m 0 #[.val (.ref x0), .val (.ref x1), .val (.ref x2)] [] := by first | (simp [entryFrame, mkF, argsToLocals, Value.category]; done) | rfl
def Q_Assignment_new_0 (Z : State) (b385 : Addr) (u1 : Addr) (t1 : Addr) (h0 : Heap) (n0 : Nat) (v : Option Value) (h : Heap) (L : List Loc) : Prop := v = none ∧ Fr n0 L ∧ Keep h0 h [b385] ∧ Fld Z h b385 xs7 "target" xs8 (.ref u1) ∧ Fld Z h b385 xs7 "value" xs12 (.ref t1)
set_option maxRecDepth 65536 in
set_option maxHeartbeats 40000000 in
theorem rm_Assignment_new_0 (l : Launch) (Z : State) (a0 : Array Value) (hw : ∀ d ∈ tables_1, d.before a0 Z = true) (ws : List Jvm.Cond) (b385 : Addr) (u1 : Addr) (t1 : Addr) (h0 : Heap) (n0 : Nat) (Z0 : n0 ≤ h0.size) (E_b385 : Exa Z h0 b385 xs7) (F_target_b385 : Fld Z h0 b385 xs7 "target" xs8 .null) (g_b385 : n0 ≤ b385) (F_value_b385 : Fld Z h0 b385 xs7 "value" xs12 .null) :
    MetFree l xm20 (head1 (Jvm.Cond.code xm20 prog_67_method_1_code 3 none :: ws) xr4) (fun a U => a = #[(.ref b385), (.ref u1), (.ref t1)] ∧ Z.Warmed39 U.vm ∧ U.heap = h0) (fun _ _ _ _ _ => True) (fun _ U o U' => ∃ v L, o = .returned v ∧ Q_Assignment_new_0 Z b385 u1 t1 h0 n0 v U'.heap L ∧ FrameEnd U o U' L xr4.cells xr4.slots) := by
  refine MetFree.of_bodySF (plainFor_of_name pn_13) hisR ?_
  intro p e s m args below meth c s₁ Bd hml0 hP hK
  obtain ⟨rfl, hZ, hh⟩ := hP
  have hx := Bd.exec
  have hby := Bd.bytes
  have hlk : meth.locks = false := BodyLoose.notSynchronized Bd
  have hml : c.maxLocals = 3 := hml0
  have hown : s.vm.findClass xs7 = some m.cls := findClass_of_methodNamed Bd.named
  have hnm := (name_of_methodNamed Bd.named Bd.method).1
  have X0 : Stand p l e xr4 s m #[(.ref b385), (.ref u1), (.ref t1)] below meth c s₁ [] 0 0 := Stand.of_body Bd
  have e0 : s₁.heap = h0 := by rw [← hh, Bd.state]; rfl
  have N0 := Fr.nil n0
  show Go p e below s (Q_Assignment_new_0 Z b385 u1 t1 h0 n0) xr4.cells xr4.slots s₁ (entryFrame m #[(.ref b385), (.ref u1), (.ref t1)] 3)
  refine Go.cast (ef_Assignment_new_0 m b385 u1 t1) ?_
  show Go p e below s _ _ _ s₁ (mkF m 0 #[.val (.ref b385), .val (.ref u1), .val (.ref t1)] [])
  refine Go.step (fun _ k => XS.aloadN X0.here hx rfl (hb hby d18_0) rfl rfl k) ?_
  show Go p e below s _ _ _ s₁ (mkF m 1 #[.val (.ref b385), .val (.ref u1), .val (.ref t1)] [(.ref b385)])
  obtain ⟨T392, X392, e392, st392⟩ := initO X0 hx hZ hown (tw179 hw) (tw33 hw) (tw34 hw) e0 (g := (mkF m 1 #[.val (.ref b385), .val (.ref u1), .val (.ref t1)] [(.ref b385)])) rfl (by rw [hml]; rfl) rfl (hb hby d18_1) (by decide) (W := 0) (by show 2 * 0 + _ ≤ _; exact Nat.le_of_eq rfl) (by decide)
  refine Go.step (fun _ k => st392 _ (XS.aloadN X392.here hx rfl (hb hby d18_4) rfl rfl (XS.aloadN X392.here hx rfl (hb hby d18_5) rfl rfl k))) ?_
  show Go p e below s _ _ _ T392 (mkF m 6 #[.val (.ref b385), .val (.ref u1), .val (.ref t1)] [(.ref u1), (.ref b385)])
  obtain ⟨T393, h393, X393, e393, W393, st393⟩ := putF X392 hx hZ hown (host := "") (Or.inl (tw180 hw)) Via.refl e392 F_target_b385 E_b385 (Or.inr ⟨(tw181 hw), rfl, hnm⟩) (tw174 hw) (ty := (.object xs9)) (by decide) rfl rfl (g := (mkF m 6 #[.val (.ref b385), .val (.ref u1), .val (.ref t1)] [(.ref u1), (.ref b385)])) rfl rfl (hb hby d18_6)
  have f396 := F_target_b385.same W393
  have N397 := Fr.snoc X393 N0 g_b385
  refine Go.step (fun _ k => st393 _ (XS.aloadN X393.here hx rfl (hb hby d18_9) rfl rfl (XS.aloadN X393.here hx rfl (hb hby d18_10) rfl rfl k))) ?_
  show Go p e below s _ _ _ T393 (mkF m 11 #[.val (.ref b385), .val (.ref u1), .val (.ref t1)] [(.ref t1), (.ref b385)])
  have f398 := (F_value_b385.other W393 (Or.inr (slot_ne (Or.inr (tw183 hw)) (Or.inr (tw181 hw)) (by decide) (t := (.object xs13)) (t' := (.object xs9)) (by decide) (by decide))))
  have f399 := (E_b385.wr W393)
  obtain ⟨T400, h400, X400, e400, W400, st400⟩ := putF X393 hx hZ hown (host := "") (Or.inl (tw182 hw)) Via.refl e393 f398 f399 (Or.inr ⟨(tw183 hw), rfl, hnm⟩) (tw174 hw) (ty := (.object xs13)) (by decide) rfl rfl (g := (mkF m 11 #[.val (.ref b385), .val (.ref u1), .val (.ref t1)] [(.ref t1), (.ref b385)])) rfl rfl (hb hby d18_11)
  have f401 := f398.same W400
  have N402 := Fr.snoc X400 N397 g_b385
  refine Go.step (fun _ k => st400 _ k) ?_
  show Go p e below s _ _ _ T400 (mkF m 14 #[.val (.ref b385), .val (.ref u1), .val (.ref t1)] [])
  have f403 := (((Keep.refl h0 [b385]).wr W393 (Or.inl (List.mem_of_getElem? (i := 0) rfl))).wr W400 (Or.inl (List.mem_of_getElem? (i := 0) rfl)))
  have f404 := (f396.other W400 (Or.inr (slot_ne (Or.inr (tw181 hw)) (Or.inr (tw183 hw)) (by decide) (t := (.object xs9)) (t' := (.object xs13)) (by decide) (by decide))))
  have f405 := (Nat.le_trans (Nat.le_trans (Nat.le_refl _) (Keep.of_wr W393).1) (Keep.of_wr W400).1)
  exact Go.retV X400 hx hlk Bd.returns (hb hby d18_14) e400 ⟨rfl, N402, f403, f404, f401⟩ (by decide) (by decide)

theorem ef_Math_max_0 (m : MethodId) (x0 : Int32) (x1 : Int32) : entryFrame m #[(.int x0), (.int x1)] 2 = mkF m 0 #[.val (.int x0), .val (.int x1)] [] := by first | (simp [entryFrame, mkF, argsToLocals, Value.category]; done) | rfl
def Q_Math_max_0 (Z : State)  (h0 : Heap) (n0 : Nat) (v : Option Value) (h : Heap) (L : List Loc) : Prop := v = some (.int (10 : Int32)) ∧ Fr n0 L ∧ h = h0
set_option maxRecDepth 65536 in
set_option maxHeartbeats 40000000 in
theorem rm_Math_max_0 (l : Launch) (Z : State) (a0 : Array Value) (hw : ∀ d ∈ tables_1, d.before a0 Z = true) (ws : List Jvm.Cond)  (h0 : Heap) (n0 : Nat) (Z0 : n0 ≤ h0.size) :
    MetFree l xm13 (head1 (Jvm.Cond.code xm13 jdk_29_method_65_code 2 (some .int) :: ws) xr15) (fun a U => a = #[(.int (10 : Int32)), (.int (1 : Int32))] ∧ Z.Warmed39 U.vm ∧ U.heap = h0) (fun _ _ _ _ _ => True) (fun _ U o U' => ∃ v L, o = .returned v ∧ Q_Math_max_0 Z  h0 n0 v U'.heap L ∧ FrameEnd U o U' L xr15.cells xr15.slots) := by
  refine MetFree.of_bodySF (Jvm.Free.JP.mathPlain rfl (by decide +kernel)) hisR ?_
  intro p e s m args below meth c s₁ Bd hml0 hP hK
  obtain ⟨rfl, hZ, hh⟩ := hP
  have hx := Bd.exec
  have hby := Bd.bytes
  have hlk : meth.locks = false := BodyLoose.notSynchronized Bd
  have hml : c.maxLocals = 2 := hml0
  have hown : s.vm.findClass xs48 = some m.cls := findClass_of_methodNamed Bd.named
  have hnm := (name_of_methodNamed Bd.named Bd.method).1
  have X0 : Stand p l e xr15 s m #[(.int (10 : Int32)), (.int (1 : Int32))] below meth c s₁ [] 0 0 := Stand.of_body Bd
  have e0 : s₁.heap = h0 := by rw [← hh, Bd.state]; rfl
  have N0 := Fr.nil n0
  show Go p e below s (Q_Math_max_0 Z  h0 n0) xr15.cells xr15.slots s₁ (entryFrame m #[(.int (10 : Int32)), (.int (1 : Int32))] 2)
  refine Go.cast (ef_Math_max_0 m (10 : Int32) (1 : Int32)) ?_
  show Go p e below s _ _ _ s₁ (mkF m 0 #[.val (.int (10 : Int32)), .val (.int (1 : Int32))] [])
  refine Go.step (fun _ k => XS.iloadN X0.here hx rfl (hb hby d23_0) rfl (XS.iloadN X0.here hx rfl (hb hby d23_1) rfl (XS.icmpNo X0.here hx rfl (hb hby d23_2) rfl (flt (by decide)).1 (XS.iloadN X0.here hx rfl (hb hby d23_5) rfl (XS.goto X0.here hx rfl (pc0 := 6) (pc' := 10) rfl (hb hby d23_6) (by decide) (by decide) k))))) ?_
  show Go p e below s _ _ _ s₁ (mkF m 10 #[.val (.int (10 : Int32)), .val (.int (1 : Int32))] [(.int (10 : Int32))])
  exact Go.retI X0 hx hlk Bd.returns (hb hby d23_10) e0 ⟨rfl, N0, rfl⟩ (by decide) (by decide)

theorem ef_ArrayList_grow_1 (m : MethodId) (x0 : Addr) (x1 : Int32) : entryFrame m #[(.ref x0), (.int x1)] 4 = mkF m 0 #[.val (.ref x0), .val (.int x1), .unset, .unset] [] := by first | (simp [entryFrame, mkF, argsToLocals, Value.category]; done) | rfl
def Q_ArrayList_grow_1 (Z : State) (b228 : Addr) (de : Addr) (kde : ClassId) (h0 : Heap) (n0 : Nat) (v : Option Value) (h : Heap) (L : List Loc) : Prop := ∃ (b425 : Addr) (k425 : ClassId), v = some (.ref b425) ∧ Fr n0 L ∧ Keep h0 h [b228] ∧ Fld Z h b228 xs37 "elementData" xs35 (.ref b425) ∧ Fld Z h b228 xs26 "modCount" "I" (.int (1 : Int32)) ∧ Fld Z h b228 xs37 "size" "I" (.int (0 : Int32)) ∧ h0.size ≤ b425 ∧ Arv Z h b425 k425 (.object xs41) (10 : Int32) [.null, .null, .null, .null, .null, .null, .null, .null, .null, .null] .null ∧ Ovr Z k425 xs41
set_option maxRecDepth 65536 in
set_option maxHeartbeats 40000000 in
theorem rm_ArrayList_grow_1 (l : Launch) (Z : State) (a0 : Array Value) (hw : ∀ d ∈ tables_1, d.before a0 Z = true) (ws : List Jvm.Cond) (b228 : Addr) (de : Addr) (kde : ClassId) (h0 : Heap) (n0 : Nat) (Z0 : n0 ≤ h0.size) (F_elementData_b228 : Fld Z h0 b228 xs37 "elementData" xs35 (.ref de)) (Z_A_de : Arv Z Z.heap de kde (.object xs41) (0 : Int32) [] .null) (O0 : Old Z n0 h0) (Z_S_DEFAULTCAPACITY_EMPTY_ELEMENTDATA : Sta Z Z.heap xs37 xs19 xs35 (.ref de)) (E_b228 : Exa Z h0 b228 xs37) (g_b228 : n0 ≤ b228) (F_modCount_b228 : Fld Z h0 b228 xs26 "modCount" "I" (.int (1 : Int32))) (F_size_b228 : Fld Z h0 b228 xs37 "size" "I" (.int (0 : Int32))) :
    MetFree l xm21 (head1 (Jvm.Cond.code xm21 jdk_38_method_6_code 4 (some (.array (.object xs41))) :: ws) xr0) (fun a U => a = #[(.ref b228), (.int (1 : Int32))] ∧ Z.Warmed39 U.vm ∧ U.heap = h0) (fun _ _ _ _ _ => True) (fun _ U o U' => ∃ v L, o = .returned v ∧ Q_ArrayList_grow_1 Z b228 de kde h0 n0 v U'.heap L ∧ FrameEnd U o U' L xr0.cells xr0.slots) := by
  refine MetFree.of_bodySF (plainFor_of_name pn_9) hisR ?_
  intro p e s m args below meth c s₁ Bd hml0 hP hK
  obtain ⟨rfl, hZ, hh⟩ := hP
  have hx := Bd.exec
  have hby := Bd.bytes
  have hlk : meth.locks = false := BodyLoose.notSynchronized Bd
  have hml : c.maxLocals = 4 := hml0
  have hown : s.vm.findClass xs37 = some m.cls := findClass_of_methodNamed Bd.named
  have hnm := (name_of_methodNamed Bd.named Bd.method).1
  have X0 : Stand p l e xr0 s m #[(.ref b228), (.int (1 : Int32))] below meth c s₁ [] 0 0 := Stand.of_body Bd
  have e0 : s₁.heap = h0 := by rw [← hh, Bd.state]; rfl
  have N0 := Fr.nil n0
  show Go p e below s (Q_ArrayList_grow_1 Z b228 de kde h0 n0) xr0.cells xr0.slots s₁ (entryFrame m #[(.ref b228), (.int (1 : Int32))] 4)
  refine Go.cast (ef_ArrayList_grow_1 m b228 (1 : Int32)) ?_
  show Go p e below s _ _ _ s₁ (mkF m 0 #[.val (.ref b228), .val (.int (1 : Int32)), .unset, .unset] [])
  refine Go.step (fun _ k => XS.aloadN X0.here hx rfl (hb hby d22_0) rfl rfl k) ?_
  show Go p e below s _ _ _ s₁ (mkF m 1 #[.val (.ref b228), .val (.int (1 : Int32)), .unset, .unset] [(.ref b228)])
  obtain ⟨T419, X419, e419, st419⟩ := getF X0 hx hZ hown (host := "") (Or.inl (tw112 hw)) Via.refl e0 F_elementData_b228 (g := (mkF m 1 #[.val (.ref b228), .val (.int (1 : Int32)), .unset, .unset] [(.ref b228)])) rfl rfl (hb hby d22_1)
  refine Go.step (fun _ k => st419 _ k) ?_
  show Go p e below s _ _ _ T419 (mkF m 4 #[.val (.ref b228), .val (.int (1 : Int32)), .unset, .unset] [(.ref de)])
  obtain ⟨cl420, Ar420, -, Sz420, Ng420, -, -⟩ := id (Z_A_de.ext O0.2)
  have aln420 := X419.arraylength hx (by rw [e419]; exact Ar420.1) (State.isArrayOf_alike hZ.alike Ar420.2.1) (g := (mkF m 4 #[.val (.ref b228), .val (.int (1 : Int32)), .unset, .unset] [(.ref de)])) rfl rfl (hb hby d22_4)
  rw [len_of Sz420 Ng420] at aln420
  refine Go.step (fun _ k => aln420 _ (XS.istoreN X419.here hx rfl (hb hby d22_5) rfl (l' := #[.val (.ref b228), .val (.int (1 : Int32)), .val (.int (0 : Int32)), .unset]) rfl (XS.iloadN X419.here hx rfl (hb hby d22_6) rfl (XS.ifNo X419.here hx rfl (hb hby d22_7) rfl ((if0 _ _).trans (flt (by decide)).2.2.1) (XS.aloadN X419.here hx rfl (hb hby d22_10) rfl rfl k))))) ?_
  show Go p e below s _ _ _ T419 (mkF m 11 #[.val (.ref b228), .val (.int (1 : Int32)), .val (.int (0 : Int32)), .unset] [(.ref b228)])
  obtain ⟨T421, X421, e421, st421⟩ := getF X419 hx hZ hown (host := "") (Or.inl (tw112 hw)) Via.refl e419 F_elementData_b228 (g := (mkF m 11 #[.val (.ref b228), .val (.int (1 : Int32)), .val (.int (0 : Int32)), .unset] [(.ref b228)])) rfl rfl (hb hby d22_11)
  refine Go.step (fun _ k => st421 _ k) ?_
  show Go p e below s _ _ _ T421 (mkF m 14 #[.val (.ref b228), .val (.int (1 : Int32)), .val (.int (0 : Int32)), .unset] [(.ref de)])
  obtain ⟨T422, X422, e422, st422⟩ := getS2 X421 hx hZ hown (host := "") (Or.inl (tw111 hw)) Via.refl e421 (Z_S_DEFAULTCAPACITY_EMPTY_ELEMENTDATA.ext O0.2) (g := (mkF m 14 #[.val (.ref b228), .val (.int (1 : Int32)), .val (.int (0 : Int32)), .unset] [(.ref de)])) rfl (hb hby d22_14)
  refine Go.step (fun _ k => st422 _ (Jvm.RoadKit.acmp (g := (mkF m 17 #[.val (.ref b228), .val (.int (1 : Int32)), .val (.int (0 : Int32)), .unset] [(.ref de), (.ref de)])) X422 hx rfl rfl rfl (pc0 := 17) (pc' := 45) (same := true) rfl (hb hby d22_17) rfl (decide_eq_true rfl) (by decide) (by decide) (XS.aloadN X422.here hx rfl (hb hby d22_45) rfl rfl (XS.bipush X422.here hx rfl (hb hby d22_46) (XS.iloadN X422.here hx rfl (hb hby d22_48) rfl k))))) ?_
  show Go p e below s _ _ _ T422 (mkF m 49 #[.val (.ref b228), .val (.int (1 : Int32)), .val (.int (0 : Int32)), .unset] [(.int (1 : Int32)), (.int (10 : Int32)), (.ref b228)])
  obtain ⟨_, _, ⟨T423, L423, k423, n423⟩, -, X423, ⟨Lc423, hQ423, l423, y423, z423⟩, st423⟩ := Jvm.LawKit.callS X422 hx (y := xm13) hown (mvT hZ (tw209 hw)) (mvT hZ (tw210 hw)) (mvT hZ (tw211 hw)) (mvT hZ (tw212 hw)) (by decide) (backOf (W := 1) (rm_Math_max_0 l Z a0 hw []  h0 n0 Z0) hZ (tw212 hw) (tw211 hw) (by decide) (by decide)) (g := (mkF m 49 #[.val (.ref b228), .val (.int (1 : Int32)), .val (.int (0 : Int32)), .unset] [(.int (1 : Int32)), (.int (10 : Int32)), (.ref b228)])) rfl (by rw [hml]; rfl) (argsL := [(.int (10 : Int32)), (.int (1 : Int32))]) (rest := [(.ref b228)]) (lenOf pd_13 rfl) rfl (by show 2 * 0 + _ ≤ _; exact Nat.le_of_eq rfl) (hb hby d22_49) (fun _ _ => ⟨rfl, e422, (by decide : 0 + 0 ≤ _), (by decide : 0 + 0 ≤ _)⟩)
  dsimp only [Pt.U, Pt.locs, Pt.cells, Pt.slots] at X423 l423 y423 z423 st423 hQ423
  subst l423 y423 z423
  obtain ⟨rfl, N423q, eq423⟩ := hQ423
  have N424 := Fr.app N0 N423q
  refine Go.step (fun _ k => st423 _ k) ?_
  show Go p e below s _ _ _ T423 (mkF m 52 #[.val (.ref b228), .val (.int (1 : Int32)), .val (.int (0 : Int32)), .unset] [(.int (10 : Int32)), (.ref b228)])
  obtain ⟨T425, h425, k425, X425, e425, E425, A425, O425, st425⟩ := newR X423 hx hZ hown (tw213 hw) (tw214 hw) eq423 (g := (mkF m 52 #[.val (.ref b228), .val (.int (1 : Int32)), .val (.int (0 : Int32)), .unset] [(.int (10 : Int32)), (.ref b228)])) rfl (hb hby d22_52) rfl (by decide) (cap := 10) (by decide) (by decide) (by decide) (by decide)
  obtain ⟨b425, g425⟩ : ∃ z, z = h0.size := ⟨_, rfl⟩
  rw [← g425] at A425 st425
  have f426 : Arv Z h425 b425 k425 (.object xs41) (10 : Int32) [.null, .null, .null, .null, .null, .null, .null, .null, .null, .null] .null := (Arv.new A425 (by decide)).pad (pad_rep [] .null 10)
  refine Go.step (fun _ k => st425 _ (XS.dupX1 X425.here hx rfl (hb hby d22_55) rfl rfl rfl k)) ?_
  show Go p e below s _ _ _ T425 (mkF m 56 #[.val (.ref b228), .val (.int (1 : Int32)), .val (.int (0 : Int32)), .unset] [(.ref b425), (.ref b228), (.ref b425)])
  have f427 := (F_elementData_b228.ext E425)
  have f428 := (E_b228.ext E425)
  obtain ⟨T429, h429, X429, e429, W429, st429⟩ := putF X425 hx hZ hown (host := "") (Or.inl (tw112 hw)) Via.refl e425 f427 f428 (Or.inl (tw113 hw)) (tw91 hw) (ty := (.array (.object xs41))) (by decide) rfl rfl (g := (mkF m 56 #[.val (.ref b228), .val (.int (1 : Int32)), .val (.int (0 : Int32)), .unset] [(.ref b425), (.ref b228), (.ref b425)])) rfl rfl (hb hby d22_56)
  have f430 := f427.same W429
  have N431 := Fr.snoc X429 N424 g_b228
  refine Go.step (fun _ k => st429 _ k) ?_
  show Go p e below s _ _ _ T429 (mkF m 59 #[.val (.ref b228), .val (.int (1 : Int32)), .val (.int (0 : Int32)), .unset] [(.ref b425)])
  have f432 := (((Keep.refl h0 [b228]).ext E425).wr W429 (Or.inl (List.mem_of_getElem? (i := 0) rfl)))
  have f433 := ((F_modCount_b228.ext E425).other W429 (Or.inr (slot_ne (Or.inl (tw110 hw)) (Or.inl (tw113 hw)) (by decide) (t := .int) (t' := (.array (.object xs41))) (by decide) (by decide))))
  have f434 := ((F_size_b228.ext E425).other W429 (Or.inr (slot_ne (Or.inl (tw158 hw)) (Or.inl (tw113 hw)) (by decide) (t := .int) (t' := (.array (.object xs41))) (by decide) (by decide))))
  have z435 := Nat.le_trans (Nat.le_refl _) (Nat.le_of_eq g425.symm)
  have ne436 : b228 ≠ b425 := Nat.ne_of_lt (Nat.lt_of_lt_of_le E_b228.lt (Nat.le_of_eq g425.symm))
  have f437 := (f426.other W429 (Ne.symm ne436))
  have f438 := (Nat.le_trans (Nat.le_trans (Nat.le_refl _) E425.1) (Keep.of_wr W429).1)
  exact Go.retA X429 hx hlk Bd.returns rfl rfl (hb hby d22_59) e429 ⟨b425, k425, rfl, N431, f432, f430, f433, f434, z435, f437, O425⟩ (by decide) (by decide)

theorem ef_ArrayList_grow_0 (m : MethodId) (x0 : Addr) : entryFrame m #[(.ref x0)] 1 = mkF m 0 #[.val (.ref x0)] [] := by first | (simp [entryFrame, mkF, argsToLocals, Value.category]; done) | rfl
def Q_ArrayList_grow_0 (Z : State) (b228 : Addr) (de : Addr) (kde : ClassId) (h0 : Heap) (n0 : Nat) (v : Option Value) (h : Heap) (L : List Loc) : Prop := ∃ (b425_439 : Addr) (k425_439 : ClassId), v = some (.ref b425_439) ∧ Fr n0 L ∧ Keep h0 h [b228] ∧ Fld Z h b228 xs37 "size" "I" (.int (0 : Int32)) ∧ Fld Z h b228 xs37 "elementData" xs35 (.ref b425_439) ∧ Fld Z h b228 xs26 "modCount" "I" (.int (1 : Int32)) ∧ h0.size ≤ b425_439 ∧ Arv Z h b425_439 k425_439 (.object xs41) (10 : Int32) [.null, .null, .null, .null, .null, .null, .null, .null, .null, .null] .null ∧ Ovr Z k425_439 xs41
set_option maxRecDepth 65536 in
set_option maxHeartbeats 40000000 in
theorem rm_ArrayList_grow_0 (l : Launch) (Z : State) (a0 : Array Value) (hw : ∀ d ∈ tables_1, d.before a0 Z = true) (ws : List Jvm.Cond) (b228 : Addr) (de : Addr) (kde : ClassId) (h0 : Heap) (n0 : Nat) (Z0 : n0 ≤ h0.size) (F_size_b228 : Fld Z h0 b228 xs37 "size" "I" (.int (0 : Int32))) (F_elementData_b228 : Fld Z h0 b228 xs37 "elementData" xs35 (.ref de)) (Z_A_de : Arv Z Z.heap de kde (.object xs41) (0 : Int32) [] .null) (O0 : Old Z n0 h0) (Z_S_DEFAULTCAPACITY_EMPTY_ELEMENTDATA : Sta Z Z.heap xs37 xs19 xs35 (.ref de)) (E_b228 : Exa Z h0 b228 xs37) (g_b228 : n0 ≤ b228) (F_modCount_b228 : Fld Z h0 b228 xs26 "modCount" "I" (.int (1 : Int32))) :
    MetFree l xm22 (head1 (Jvm.Cond.code xm22 jdk_38_method_7_code 1 (some (.array (.object xs41))) :: ws) xr1) (fun a U => a = #[(.ref b228)] ∧ Z.Warmed39 U.vm ∧ U.heap = h0) (fun _ _ _ _ _ => True) (fun _ U o U' => ∃ v L, o = .returned v ∧ Q_ArrayList_grow_0 Z b228 de kde h0 n0 v U'.heap L ∧ FrameEnd U o U' L xr1.cells xr1.slots) := by
  refine MetFree.of_bodySF (plainFor_of_name pn_9) hisR ?_
  intro p e s m args below meth c s₁ Bd hml0 hP hK
  obtain ⟨rfl, hZ, hh⟩ := hP
  have hx := Bd.exec
  have hby := Bd.bytes
  have hlk : meth.locks = false := BodyLoose.notSynchronized Bd
  have hml : c.maxLocals = 1 := hml0
  have hown : s.vm.findClass xs37 = some m.cls := findClass_of_methodNamed Bd.named
  have hnm := (name_of_methodNamed Bd.named Bd.method).1
  have X0 : Stand p l e xr1 s m #[(.ref b228)] below meth c s₁ [] 0 0 := Stand.of_body Bd
  have e0 : s₁.heap = h0 := by rw [← hh, Bd.state]; rfl
  have N0 := Fr.nil n0
  show Go p e below s (Q_ArrayList_grow_0 Z b228 de kde h0 n0) xr1.cells xr1.slots s₁ (entryFrame m #[(.ref b228)] 1)
  refine Go.cast (ef_ArrayList_grow_0 m b228) ?_
  show Go p e below s _ _ _ s₁ (mkF m 0 #[.val (.ref b228)] [])
  refine Go.step (fun _ k => XS.aloadN X0.here hx rfl (hb hby d21_0) rfl rfl (XS.aloadN X0.here hx rfl (hb hby d21_1) rfl rfl k)) ?_
  show Go p e below s _ _ _ s₁ (mkF m 2 #[.val (.ref b228)] [(.ref b228), (.ref b228)])
  obtain ⟨T418, X418, e418, st418⟩ := getF X0 hx hZ hown (host := "") (Or.inl (tw193 hw)) Via.refl e0 F_size_b228 (g := (mkF m 2 #[.val (.ref b228)] [(.ref b228), (.ref b228)])) rfl rfl (hb hby d21_2)
  refine Go.step (fun _ k => st418 _ (XS.iconst X418.here hx rfl (hb hby d21_5) (XS.iadd X418.here hx rfl (hb hby d21_6) rfl k))) ?_
  show Go p e below s _ _ _ T418 (mkF m 7 #[.val (.ref b228)] [(.int (1 : Int32)), (.ref b228)])
  obtain ⟨cq439, q439, q439'⟩ := E_b228.cell
  obtain ⟨_, _, ⟨T439, L439, k439, n439⟩, -, X439, ⟨Lc439, hQ439, l439, y439, z439⟩, st439⟩ := X418.privateBack hx (y := xm21) hown (mvT hZ (tw204 hw)) (mvT hZ (tw205 hw)) (mvT hZ (tw207 hw)) (Cond.privateMethod_at (mvP hZ (tw206 hw) (args := #[]))) (mvT hZ (tw208 hw)) (by decide) (backOf (W := 0) (rm_ArrayList_grow_1 l Z a0 hw [] b228 de kde h0 n0 Z0 F_elementData_b228 Z_A_de O0 Z_S_DEFAULTCAPACITY_EMPTY_ELEMENTDATA E_b228 g_b228 F_modCount_b228 F_size_b228) hZ (tw208 hw) (tw92 hw) (by decide) (by decide)) (g := (mkF m 7 #[.val (.ref b228)] [(.int (1 : Int32)), (.ref b228)])) rfl (by rw [hml]; rfl) (Steps.refl _) (a := b228) (by rw [e418]; exact q439) q439' (argsL := [(.int (1 : Int32))]) (rest := []) (lenOf pd_14 rfl) rfl (by show 2 * 0 + _ ≤ _; exact Nat.le_of_eq rfl) (hb hby d21_7) (fun _ _ => ⟨rfl, e418, (by decide : 0 + 1 ≤ _), (by decide : 0 + 10 ≤ _)⟩)
  dsimp only [Pt.U, Pt.locs, Pt.cells, Pt.slots] at X439 l439 y439 z439 st439 hQ439
  subst l439 y439 z439
  obtain ⟨b425_439, k425_439, rfl, N439q, K439, P439_0, P439_1, P439_2, P439_3, P439_4, P439_5⟩ := hQ439
  have N440 := Fr.app N0 N439q
  refine Go.step (fun _ k => st439.trans k) ?_
  show Go p e below s _ _ _ T439 (mkF m 10 #[.val (.ref b228)] [(.ref b425_439)])
  have f441 := ((Keep.refl h0 [b228]).trans K439 (allS (Or.inl (List.mem_of_getElem? (i := 0) rfl)) all0))
  have z442 := Nat.le_trans (Nat.le_refl _) P439_3
  have f443 := (Nat.le_trans (Nat.le_refl _) K439.1)
  exact Go.retA X439 hx hlk Bd.returns rfl rfl (hb hby d21_10) rfl ⟨b425_439, k425_439, rfl, N440, f441, P439_2, P439_0, P439_1, z442, P439_4, P439_5⟩ (by decide) (by decide)

theorem ef_ArrayList_add_1 (m : MethodId) (x0 : Addr) (x1 : Addr) (x2 : Addr) (x3 : Int32) : entryFrame m #[(.ref x0), (.ref x1), (.ref x2), (.int x3)] 4 = mkF m 0 #[.val (.ref x0), .val (.ref x1), .val (.ref x2), .val (.int x3)] [] := by first | (simp [entryFrame, mkF, argsToLocals, Value.category]; done) | rfl
def Q_ArrayList_add_1 (Z : State) (b228 : Addr) (b385 : Addr) (de : Addr) (kde : ClassId) (h0 : Heap) (n0 : Nat) (v : Option Value) (h : Heap) (L : List Loc) : Prop := ∃ (b425_439_444 : Addr) (k425_439_444 : ClassId), v = none ∧ Fr n0 L ∧ Keep h0 h [b228] ∧ Fld Z h b228 xs37 "size" "I" (.int (1 : Int32)) ∧ Fld Z h b228 xs37 "elementData" xs35 (.ref b425_439_444) ∧ Fld Z h b228 xs26 "modCount" "I" (.int (1 : Int32)) ∧ h0.size ≤ b425_439_444 ∧ Arv Z h b425_439_444 k425_439_444 (.object xs41) (10 : Int32) [(.ref b385), .null, .null, .null, .null, .null, .null, .null, .null, .null] .null ∧ Ovr Z k425_439_444 xs41
set_option maxRecDepth 65536 in
set_option maxHeartbeats 40000000 in
theorem rm_ArrayList_add_1 (l : Launch) (Z : State) (a0 : Array Value) (hw : ∀ d ∈ tables_1, d.before a0 Z = true) (ws : List Jvm.Cond) (b228 : Addr) (b385 : Addr) (de : Addr) (kde : ClassId) (h0 : Heap) (n0 : Nat) (Z0 : n0 ≤ h0.size) (Z_A_de : Arv Z Z.heap de kde (.object xs41) (0 : Int32) [] .null) (O0 : Old Z n0 h0) (F_size_b228 : Fld Z h0 b228 xs37 "size" "I" (.int (0 : Int32))) (F_elementData_b228 : Fld Z h0 b228 xs37 "elementData" xs35 (.ref de)) (Z_S_DEFAULTCAPACITY_EMPTY_ELEMENTDATA : Sta Z Z.heap xs37 xs19 xs35 (.ref de)) (E_b228 : Exa Z h0 b228 xs37) (g_b228 : n0 ≤ b228) (F_modCount_b228 : Fld Z h0 b228 xs26 "modCount" "I" (.int (1 : Int32))) (E_b385 : Exa Z h0 b385 xs7) :
    MetFree l xm27 (head1 (Jvm.Cond.code xm27 jdk_38_method_24_code 4 none :: ws) xr2) (fun a U => a = #[(.ref b228), (.ref b385), (.ref de), (.int (0 : Int32))] ∧ Z.Warmed39 U.vm ∧ U.heap = h0) (fun _ _ _ _ _ => True) (fun _ U o U' => ∃ v L, o = .returned v ∧ Q_ArrayList_add_1 Z b228 b385 de kde h0 n0 v U'.heap L ∧ FrameEnd U o U' L xr2.cells xr2.slots) := by
  refine MetFree.of_bodySF (plainFor_of_name pn_9) hisR ?_
  intro p e s m args below meth c s₁ Bd hml0 hP hK
  obtain ⟨rfl, hZ, hh⟩ := hP
  have hx := Bd.exec
  have hby := Bd.bytes
  have hlk : meth.locks = false := BodyLoose.notSynchronized Bd
  have hml : c.maxLocals = 4 := hml0
  have hown : s.vm.findClass xs37 = some m.cls := findClass_of_methodNamed Bd.named
  have hnm := (name_of_methodNamed Bd.named Bd.method).1
  have X0 : Stand p l e xr2 s m #[(.ref b228), (.ref b385), (.ref de), (.int (0 : Int32))] below meth c s₁ [] 0 0 := Stand.of_body Bd
  have e0 : s₁.heap = h0 := by rw [← hh, Bd.state]; rfl
  have N0 := Fr.nil n0
  show Go p e below s (Q_ArrayList_add_1 Z b228 b385 de kde h0 n0) xr2.cells xr2.slots s₁ (entryFrame m #[(.ref b228), (.ref b385), (.ref de), (.int (0 : Int32))] 4)
  refine Go.cast (ef_ArrayList_add_1 m b228 b385 de (0 : Int32)) ?_
  show Go p e below s _ _ _ s₁ (mkF m 0 #[.val (.ref b228), .val (.ref b385), .val (.ref de), .val (.int (0 : Int32))] [])
  refine Go.step (fun _ k => XS.iloadN X0.here hx rfl (hb hby d20_0) rfl (XS.aloadN X0.here hx rfl (hb hby d20_1) rfl rfl k)) ?_
  show Go p e below s _ _ _ s₁ (mkF m 2 #[.val (.ref b228), .val (.ref b385), .val (.ref de), .val (.int (0 : Int32))] [(.ref de), (.int (0 : Int32))])
  obtain ⟨cl417, Ar417, -, Sz417, Ng417, -, -⟩ := id (Z_A_de.ext O0.2)
  have aln417 := X0.arraylength hx (by rw [e0]; exact Ar417.1) (State.isArrayOf_alike hZ.alike Ar417.2.1) (g := (mkF m 2 #[.val (.ref b228), .val (.ref b385), .val (.ref de), .val (.int (0 : Int32))] [(.ref de), (.int (0 : Int32))])) rfl rfl (hb hby d20_2)
  rw [len_of Sz417 Ng417] at aln417
  refine Go.step (fun _ k => aln417 _ (XS.icmpNo X0.here hx rfl (hb hby d20_3) rfl (teq (by decide)).2 (XS.aloadN X0.here hx rfl (hb hby d20_6) rfl rfl k))) ?_
  show Go p e below s _ _ _ s₁ (mkF m 7 #[.val (.ref b228), .val (.ref b385), .val (.ref de), .val (.int (0 : Int32))] [(.ref b228)])
  obtain ⟨cq444, q444, q444'⟩ := E_b228.cell
  obtain ⟨_, _, ⟨T444, L444, k444, n444⟩, -, X444, ⟨Lc444, hQ444, l444, y444, z444⟩, st444⟩ := X0.privateBack hx (y := xm22) hown (mvT hZ (tw199 hw)) (mvT hZ (tw200 hw)) (mvT hZ (tw202 hw)) (Cond.privateMethod_at (mvP hZ (tw201 hw) (args := #[]))) (mvT hZ (tw203 hw)) (by decide) (backOf (W := 0) (rm_ArrayList_grow_0 l Z a0 hw [] b228 de kde h0 n0 Z0 F_size_b228 F_elementData_b228 Z_A_de O0 Z_S_DEFAULTCAPACITY_EMPTY_ELEMENTDATA E_b228 g_b228 F_modCount_b228) hZ (tw203 hw) (tw92 hw) (by decide) (by decide)) (g := (mkF m 7 #[.val (.ref b228), .val (.ref b385), .val (.ref de), .val (.int (0 : Int32))] [(.ref b228)])) rfl (by rw [hml]; rfl) (Steps.refl _) (a := b228) (by rw [e0]; exact q444) q444' (argsL := []) (rest := []) (lenOf pd_15 rfl) rfl (by show 2 * 0 + _ ≤ _; exact Nat.le_of_eq rfl) (hb hby d20_7) (fun _ _ => ⟨rfl, e0, (by decide : 0 + 1 ≤ _), (by decide : 0 + 10 ≤ _)⟩)
  dsimp only [Pt.U, Pt.locs, Pt.cells, Pt.slots] at X444 l444 y444 z444 st444 hQ444
  subst l444 y444 z444
  obtain ⟨b425_439_444, k425_439_444, rfl, N444q, K444, P444_0, P444_1, P444_2, P444_3, P444_4, P444_5⟩ := hQ444
  have N445 := Fr.app N0 N444q
  refine Go.step (fun _ k => st444.trans (XS.astoreN X444.here hx rfl (hb hby d20_10) rfl rfl (l' := #[.val (.ref b228), .val (.ref b385), .val (.ref b425_439_444), .val (.int (0 : Int32))]) rfl (XS.aloadN X444.here hx rfl (hb hby d20_11) rfl rfl (XS.iloadN X444.here hx rfl (hb hby d20_12) rfl (XS.aloadN X444.here hx rfl (hb hby d20_13) rfl rfl k))))) ?_
  show Go p e below s _ _ _ T444 (mkF m 14 #[.val (.ref b228), .val (.ref b385), .val (.ref b425_439_444), .val (.int (0 : Int32))] [(.ref b385), (.int (0 : Int32)), (.ref b425_439_444)])
  obtain ⟨cl446, Ar446, qq446, Sz446, Ng446, Hs446, Ft446⟩ := id P444_4
  have in446 : ¬ ((0 : Int32) < 0 ∨ cl446.slots.size ≤ ((0 : Int32)).toNatClampNeg) := (inb_of Sz446 ⟨by decide, by decide⟩)
  have f447 := (E_b385.keep K444)
  obtain ⟨T446, h446, X446, e446, W446, st446⟩ := stR X444 hx hZ rfl Ar446 (j := (0 : Int32)) in446 rfl (Sto.ofV Ar446 qq446 P444_5 (Ins.of_exa f447 (tw215 hw))) (g := (mkF m 14 #[.val (.ref b228), .val (.ref b385), .val (.ref b425_439_444), .val (.int (0 : Int32))] [(.ref b385), (.int (0 : Int32)), (.ref b425_439_444)])) rfl rfl (hb hby d20_14)
  have g448 := Nat.le_trans Z0 P444_3
  have f449 : Arv Z h446 b425_439_444 k425_439_444 (.object xs41) (10 : Int32) [(.ref b385), .null, .null, .null, .null, .null, .null, .null, .null, .null] .null := Arv.set Ar446 qq446 Sz446 Ng446 Hs446 Ft446 rfl W446 0 rfl (Nat.le_of_ble_eq_true rfl)
  have N450 := Fr.snoc X446 N445 g448
  refine Go.step (fun _ k => st446 _ (XS.aloadN X446.here hx rfl (hb hby d20_15) rfl rfl (XS.iloadN X446.here hx rfl (hb hby d20_16) rfl (XS.iconst X446.here hx rfl (hb hby d20_17) (XS.iadd X446.here hx rfl (hb hby d20_18) rfl k))))) ?_
  show Go p e below s _ _ _ T446 (mkF m 19 #[.val (.ref b228), .val (.ref b385), .val (.ref b425_439_444), .val (.int (0 : Int32))] [(.int (1 : Int32)), (.ref b228)])
  have ne451 : b228 ≠ b425_439_444 := Nat.ne_of_lt (Nat.lt_of_lt_of_le E_b228.lt P444_3)
  have f452 := (P444_0.other W446 (Or.inl ne451))
  have f453 := ((E_b228.keep K444).wr W446)
  obtain ⟨T454, h454, X454, e454, W454, st454⟩ := putF X446 hx hZ hown (host := "") (Or.inl (tw193 hw)) Via.refl e446 f452 f453 (Or.inl (tw158 hw)) (tw91 hw) (ty := .int) (by decide) rfl rfl (g := (mkF m 19 #[.val (.ref b228), .val (.ref b385), .val (.ref b425_439_444), .val (.int (0 : Int32))] [(.int (1 : Int32)), (.ref b228)])) rfl rfl (hb hby d20_19)
  have f455 := f452.same W454
  have N456 := Fr.snoc X454 N450 g_b228
  refine Go.step (fun _ k => st454 _ k) ?_
  show Go p e below s _ _ _ T454 (mkF m 22 #[.val (.ref b228), .val (.ref b385), .val (.ref b425_439_444), .val (.int (0 : Int32))] [])
  have z457 := Nat.le_trans (Nat.le_refl _) P444_3
  have f458 := ((((Keep.refl h0 [b228]).trans K444 (allS (Or.inl (List.mem_of_getElem? (i := 0) rfl)) all0)).wr W446 (Or.inr z457)).wr W454 (Or.inl (List.mem_of_getElem? (i := 0) rfl)))
  have f459 := ((P444_1.other W446 (Or.inl ne451)).other W454 (Or.inr (slot_ne (Or.inl (tw113 hw)) (Or.inl (tw158 hw)) (by decide) (t := (.array (.object xs41))) (t' := .int) (by decide) (by decide))))
  have f460 := ((P444_2.other W446 (Or.inl ne451)).other W454 (Or.inr (slot_ne (Or.inl (tw110 hw)) (Or.inl (tw158 hw)) (by decide) (t := .int) (t' := .int) (by decide) (by decide))))
  have f461 := (f449.other W454 (Ne.symm ne451))
  have f462 := (Nat.le_trans (Nat.le_trans (Nat.le_trans (Nat.le_refl _) K444.1) (Keep.of_wr W446).1) (Keep.of_wr W454).1)
  exact Go.retV X454 hx hlk Bd.returns (hb hby d20_22) e454 ⟨b425_439_444, k425_439_444, rfl, N456, f458, f455, f459, f460, z457, f461, P444_5⟩ (by decide) (by decide)

theorem ef_ArrayList_add_0 (m : MethodId) (x0 : Addr) (x1 : Addr) : entryFrame m #[(.ref x0), (.ref x1)] 2 = mkF m 0 #[.val (.ref x0), .val (.ref x1)] [] := by first | (simp [entryFrame, mkF, argsToLocals, Value.category]; done) | rfl
def Q_ArrayList_add_0 (Z : State) (b228 : Addr) (b385 : Addr) (de : Addr) (kde : ClassId) (h0 : Heap) (n0 : Nat) (v : Option Value) (h : Heap) (L : List Loc) : Prop := ∃ (b425_439_444_467 : Addr) (k425_439_444_467 : ClassId), v = some (.int (1 : Int32)) ∧ Fr n0 L ∧ Keep h0 h [b228] ∧ Fld Z h b228 xs26 "modCount" "I" (.int (1 : Int32)) ∧ Fld Z h b228 xs37 "elementData" xs35 (.ref b425_439_444_467) ∧ Fld Z h b228 xs37 "size" "I" (.int (1 : Int32)) ∧ h0.size ≤ b425_439_444_467 ∧ Arv Z h b425_439_444_467 k425_439_444_467 (.object xs41) (10 : Int32) [(.ref b385), .null, .null, .null, .null, .null, .null, .null, .null, .null] .null ∧ Ovr Z k425_439_444_467 xs41
set_option maxRecDepth 65536 in
set_option maxHeartbeats 40000000 in
theorem rm_ArrayList_add_0 (l : Launch) (Z : State) (a0 : Array Value) (hw : ∀ d ∈ tables_1, d.before a0 Z = true) (ws : List Jvm.Cond) (b228 : Addr) (b385 : Addr) (de : Addr) (kde : ClassId) (h0 : Heap) (n0 : Nat) (Z0 : n0 ≤ h0.size) (F_modCount_b228 : Fld Z h0 b228 xs26 "modCount" "I" (.int (0 : Int32))) (E_b228 : Exa Z h0 b228 xs37) (g_b228 : n0 ≤ b228) (F_elementData_b228 : Fld Z h0 b228 xs37 "elementData" xs35 (.ref de)) (F_size_b228 : Fld Z h0 b228 xs37 "size" "I" (.int (0 : Int32))) (Z_A_de : Arv Z Z.heap de kde (.object xs41) (0 : Int32) [] .null) (O0 : Old Z n0 h0) (Z_S_DEFAULTCAPACITY_EMPTY_ELEMENTDATA : Sta Z Z.heap xs37 xs19 xs35 (.ref de)) (E_b385 : Exa Z h0 b385 xs7) :
    MetFree l xm28 (head1 (Jvm.Cond.code xm28 jdk_38_method_25_code 2 (some .boolean) :: ws) xr3) (fun a U => a = #[(.ref b228), (.ref b385)] ∧ Z.Warmed39 U.vm ∧ U.heap = h0) (fun _ _ _ _ _ => True) (fun _ U o U' => ∃ v L, o = .returned v ∧ Q_ArrayList_add_0 Z b228 b385 de kde h0 n0 v U'.heap L ∧ FrameEnd U o U' L xr3.cells xr3.slots) := by
  refine MetFree.of_bodySF (plainFor_of_name pn_9) hisR ?_
  intro p e s m args below meth c s₁ Bd hml0 hP hK
  obtain ⟨rfl, hZ, hh⟩ := hP
  have hx := Bd.exec
  have hby := Bd.bytes
  have hlk : meth.locks = false := BodyLoose.notSynchronized Bd
  have hml : c.maxLocals = 2 := hml0
  have hown : s.vm.findClass xs37 = some m.cls := findClass_of_methodNamed Bd.named
  have hnm := (name_of_methodNamed Bd.named Bd.method).1
  have X0 : Stand p l e xr3 s m #[(.ref b228), (.ref b385)] below meth c s₁ [] 0 0 := Stand.of_body Bd
  have e0 : s₁.heap = h0 := by rw [← hh, Bd.state]; rfl
  have N0 := Fr.nil n0
  show Go p e below s (Q_ArrayList_add_0 Z b228 b385 de kde h0 n0) xr3.cells xr3.slots s₁ (entryFrame m #[(.ref b228), (.ref b385)] 2)
  refine Go.cast (ef_ArrayList_add_0 m b228 b385) ?_
  show Go p e below s _ _ _ s₁ (mkF m 0 #[.val (.ref b228), .val (.ref b385)] [])
  refine Go.step (fun _ k => XS.aloadN X0.here hx rfl (hb hby d19_0) rfl rfl (XS.dup X0.here hx rfl (hb hby d19_1) rfl rfl k)) ?_
  show Go p e below s _ _ _ s₁ (mkF m 2 #[.val (.ref b228), .val (.ref b385)] [(.ref b228), (.ref b228)])
  obtain ⟨T409, X409, e409, st409⟩ := getF X0 hx hZ hown (host := "") (Or.inl (tw192 hw)) (Via.of (tw145 hw)) e0 F_modCount_b228 (g := (mkF m 2 #[.val (.ref b228), .val (.ref b385)] [(.ref b228), (.ref b228)])) rfl rfl (hb hby d19_2)
  refine Go.step (fun _ k => st409 _ (XS.iconst X409.here hx rfl (hb hby d19_5) (XS.iadd X409.here hx rfl (hb hby d19_6) rfl k))) ?_
  show Go p e below s _ _ _ T409 (mkF m 7 #[.val (.ref b228), .val (.ref b385)] [(.int (1 : Int32)), (.ref b228)])
  obtain ⟨T410, h410, X410, e410, W410, st410⟩ := putF X409 hx hZ hown (host := "") (Or.inl (tw192 hw)) (Via.of (tw145 hw)) e409 F_modCount_b228 E_b228 (Or.inl (tw110 hw)) (tw91 hw) (ty := .int) (by decide) rfl rfl (g := (mkF m 7 #[.val (.ref b228), .val (.ref b385)] [(.int (1 : Int32)), (.ref b228)])) rfl rfl (hb hby d19_7)
  have f411 := F_modCount_b228.same W410
  have N412 := Fr.snoc X410 N0 g_b228
  refine Go.step (fun _ k => st410 _ (XS.aloadN X410.here hx rfl (hb hby d19_10) rfl rfl (XS.aloadN X410.here hx rfl (hb hby d19_11) rfl rfl (XS.aloadN X410.here hx rfl (hb hby d19_12) rfl rfl k)))) ?_
  show Go p e below s _ _ _ T410 (mkF m 13 #[.val (.ref b228), .val (.ref b385)] [(.ref b228), (.ref b385), (.ref b228)])
  have f413 := (F_elementData_b228.other W410 (Or.inr (slot_ne (Or.inl (tw113 hw)) (Or.inl (tw110 hw)) (by decide) (t := (.array (.object xs41))) (t' := .int) (by decide) (by decide))))
  obtain ⟨T414, X414, e414, st414⟩ := getF X410 hx hZ hown (host := "") (Or.inl (tw112 hw)) Via.refl e410 f413 (g := (mkF m 13 #[.val (.ref b228), .val (.ref b385)] [(.ref b228), (.ref b385), (.ref b228)])) rfl rfl (hb hby d19_13)
  refine Go.step (fun _ k => st414 _ (XS.aloadN X414.here hx rfl (hb hby d19_16) rfl rfl k)) ?_
  show Go p e below s _ _ _ T414 (mkF m 17 #[.val (.ref b228), .val (.ref b385)] [(.ref b228), (.ref de), (.ref b385), (.ref b228)])
  have f415 := (F_size_b228.other W410 (Or.inr (slot_ne (Or.inl (tw158 hw)) (Or.inl (tw110 hw)) (by decide) (t := .int) (t' := .int) (by decide) (by decide))))
  obtain ⟨T416, X416, e416, st416⟩ := getF X414 hx hZ hown (host := "") (Or.inl (tw193 hw)) Via.refl e414 f415 (g := (mkF m 17 #[.val (.ref b228), .val (.ref b385)] [(.ref b228), (.ref de), (.ref b385), (.ref b228)])) rfl rfl (hb hby d19_17)
  refine Go.step (fun _ k => st416 _ k) ?_
  show Go p e below s _ _ _ T416 (mkF m 20 #[.val (.ref b228), .val (.ref b385)] [(.int (0 : Int32)), (.ref de), (.ref b385), (.ref b228)])
  have f463 := (O0.wr W410 g_b228)
  have f464 := (Nat.le_trans Z0 (Keep.of_wr W410).1)
  have f465 := (E_b228.wr W410)
  have f466 := (E_b385.wr W410)
  obtain ⟨cq467, q467, q467'⟩ := f465.cell
  obtain ⟨_, _, ⟨T467, L467, k467, n467⟩, -, X467, ⟨Lc467, hQ467, l467, y467, z467⟩, st467⟩ := X416.privateBack hx (y := xm27) hown (mvT hZ (tw194 hw)) (mvT hZ (tw195 hw)) (mvT hZ (tw197 hw)) (Cond.privateMethod_at (mvP hZ (tw196 hw) (args := #[]))) (mvT hZ (tw198 hw)) (by decide) (backOf (W := 0) (rm_ArrayList_add_1 l Z a0 hw [] b228 b385 de kde h410 n0 f464 Z_A_de f463 f415 f413 Z_S_DEFAULTCAPACITY_EMPTY_ELEMENTDATA f465 g_b228 f411 f466) hZ (tw198 hw) (tw92 hw) (by decide) (by decide)) (g := (mkF m 20 #[.val (.ref b228), .val (.ref b385)] [(.int (0 : Int32)), (.ref de), (.ref b385), (.ref b228)])) rfl (by rw [hml]; rfl) (Steps.refl _) (a := b228) (by rw [e416]; exact q467) q467' (argsL := [(.ref b385), (.ref de), (.int (0 : Int32))]) (rest := []) (lenOf pd_16 rfl) rfl (by show 2 * 0 + _ ≤ _; exact Nat.le_of_eq rfl) (hb hby d19_20) (fun _ _ => ⟨rfl, e416, (by decide : 0 + 1 ≤ _), (by decide : 0 + 10 ≤ _)⟩)
  dsimp only [Pt.U, Pt.locs, Pt.cells, Pt.slots] at X467 l467 y467 z467 st467 hQ467
  subst l467 y467 z467
  obtain ⟨b425_439_444_467, k425_439_444_467, rfl, N467q, K467, P467_0, P467_1, P467_2, P467_3, P467_4, P467_5⟩ := hQ467
  have N468 := Fr.app N412 N467q
  refine Go.step (fun _ k => st467.trans (XS.iconst X467.here hx rfl (hb hby d19_23) k)) ?_
  show Go p e below s _ _ _ T467 (mkF m 24 #[.val (.ref b228), .val (.ref b385)] [(.int (1 : Int32))])
  have f469 := (((Keep.refl h0 [b228]).wr W410 (Or.inl (List.mem_of_getElem? (i := 0) rfl))).trans K467 (allS (Or.inl (List.mem_of_getElem? (i := 0) rfl)) all0))
  have f470 := (Nat.le_trans (Nat.le_refl _) (Keep.of_wr W410).1)
  have z471 := Nat.le_trans f470 P467_3
  have f472 := (Nat.le_trans (Nat.le_trans (Nat.le_refl _) (Keep.of_wr W410).1) K467.1)
  exact Go.retN X467 hx hlk (t := .boolean) Bd.returns (by simp) (hb hby d19_24) rfl ⟨b425_439_444_467, k425_439_444_467, rfl, N468, f469, P467_2, P467_1, P467_0, z471, P467_4, P467_5⟩ (by decide) (by decide)

theorem ef_ArrayList_Itr_new_1 (m : MethodId) (x0 : Addr) (x1 : Addr) : entryFrame m #[(.ref x0), (.ref x1)] 2 = mkF m 0 #[.val (.ref x0), .val (.ref x1)] [] := by first | (simp [entryFrame, mkF, argsToLocals, Value.category]; done) | rfl
def Q_ArrayList_Itr_new_1 (Z : State) (b496 : Addr) (b228 : Addr) (h0 : Heap) (n0 : Nat) (v : Option Value) (h : Heap) (L : List Loc) : Prop := v = none ∧ Fr n0 L ∧ Keep h0 h [b496] ∧ Fld Z h b496 xs24 "this$0" xs29 (.ref b228) ∧ Fld Z h b496 xs24 "lastRet" "I" (.int (-1 : Int32)) ∧ Fld Z h b496 xs24 xs44 "I" (.int (1 : Int32)) ∧ Fld Z h b496 xs24 "cursor" "I" (.int (0 : Int32))
set_option maxRecDepth 65536 in
set_option maxHeartbeats 40000000 in
theorem rm_ArrayList_Itr_new_1 (l : Launch) (Z : State) (a0 : Array Value) (hw : ∀ d ∈ tables_1, d.before a0 Z = true) (ws : List Jvm.Cond) (b496 : Addr) (b228 : Addr) (h0 : Heap) (n0 : Nat) (Z0 : n0 ≤ h0.size) (E_b496 : Exa Z h0 b496 xs24) (F_this_0_b496 : Fld Z h0 b496 xs24 "this$0" xs29 .null) (g_b496 : n0 ≤ b496) (F_lastRet_b496 : Fld Z h0 b496 xs24 "lastRet" "I" (.int (0 : Int32))) (F_modCount_b228 : Fld Z h0 b228 xs26 "modCount" "I" (.int (1 : Int32))) (ne_b228_b496 : b228 ≠ b496) (F_expectedModCount_b496 : Fld Z h0 b496 xs24 xs44 "I" (.int (0 : Int32))) (F_cursor_b496 : Fld Z h0 b496 xs24 "cursor" "I" (.int (0 : Int32))) :
    MetFree l xm12 (head1 (Jvm.Cond.code xm12 jdk_49_method_1_code 2 none :: ws) xr4) (fun a U => a = #[(.ref b496), (.ref b228)] ∧ Z.Warmed39 U.vm ∧ U.heap = h0) (fun _ _ _ _ _ => True) (fun _ U o U' => ∃ v L, o = .returned v ∧ Q_ArrayList_Itr_new_1 Z b496 b228 h0 n0 v U'.heap L ∧ FrameEnd U o U' L xr4.cells xr4.slots) := by
  refine MetFree.of_bodySF (plainFor_of_name pn_12) hisR ?_
  intro p e s m args below meth c s₁ Bd hml0 hP hK
  obtain ⟨rfl, hZ, hh⟩ := hP
  have hx := Bd.exec
  have hby := Bd.bytes
  have hlk : meth.locks = false := BodyLoose.notSynchronized Bd
  have hml : c.maxLocals = 2 := hml0
  have hown : s.vm.findClass xs24 = some m.cls := findClass_of_methodNamed Bd.named
  have hnm := (name_of_methodNamed Bd.named Bd.method).1
  have X0 : Stand p l e xr4 s m #[(.ref b496), (.ref b228)] below meth c s₁ [] 0 0 := Stand.of_body Bd
  have e0 : s₁.heap = h0 := by rw [← hh, Bd.state]; rfl
  have N0 := Fr.nil n0
  show Go p e below s (Q_ArrayList_Itr_new_1 Z b496 b228 h0 n0) xr4.cells xr4.slots s₁ (entryFrame m #[(.ref b496), (.ref b228)] 2)
  refine Go.cast (ef_ArrayList_Itr_new_1 m b496 b228) ?_
  show Go p e below s _ _ _ s₁ (mkF m 0 #[.val (.ref b496), .val (.ref b228)] [])
  refine Go.step (fun _ k => XS.aloadN X0.here hx rfl (hb hby d16_0) rfl rfl (XS.aloadN X0.here hx rfl (hb hby d16_1) rfl rfl k)) ?_
  show Go p e below s _ _ _ s₁ (mkF m 2 #[.val (.ref b496), .val (.ref b228)] [(.ref b228), (.ref b496)])
  obtain ⟨T501, h501, X501, e501, W501, st501⟩ := putF X0 hx hZ hown (host := "") (Or.inl (tw139 hw)) Via.refl e0 F_this_0_b496 E_b496 (Or.inr ⟨(tw140 hw), rfl, hnm⟩) (tw133 hw) (ty := (.object xs37)) (by decide) rfl rfl (g := (mkF m 2 #[.val (.ref b496), .val (.ref b228)] [(.ref b228), (.ref b496)])) rfl rfl (hb hby d16_2)
  have f503 := F_this_0_b496.same W501
  have N504 := Fr.snoc X501 N0 g_b496
  refine Go.step (fun _ k => st501 _ (XS.aloadN X501.here hx rfl (hb hby d16_5) rfl rfl k)) ?_
  show Go p e below s _ _ _ T501 (mkF m 6 #[.val (.ref b496), .val (.ref b228)] [(.ref b496)])
  obtain ⟨T505, X505, e505, st505⟩ := initO X501 hx hZ hown (tw141 hw) (tw33 hw) (tw34 hw) e501 (g := (mkF m 6 #[.val (.ref b496), .val (.ref b228)] [(.ref b496)])) rfl (by rw [hml]; rfl) rfl (hb hby d16_6) (by decide) (W := 0) (by show 2 * 0 + _ ≤ _; exact Nat.le_of_eq rfl) (by decide)
  refine Go.step (fun _ k => st505 _ (XS.aloadN X505.here hx rfl (hb hby d16_9) rfl rfl (XS.iconst X505.here hx rfl (hb hby d16_10) k))) ?_
  show Go p e below s _ _ _ T505 (mkF m 11 #[.val (.ref b496), .val (.ref b228)] [(.int (-1 : Int32)), (.ref b496)])
  have f506 := (F_lastRet_b496.other W501 (Or.inr (slot_ne (Or.inl (tw143 hw)) (Or.inr (tw140 hw)) (by decide) (t := .int) (t' := (.object xs37)) (by decide) (by decide))))
  have f507 := (E_b496.wr W501)
  obtain ⟨T508, h508, X508, e508, W508, st508⟩ := putF X505 hx hZ hown (host := "") (Or.inl (tw142 hw)) Via.refl e505 f506 f507 (Or.inl (tw143 hw)) (tw133 hw) (ty := .int) (by decide) rfl rfl (g := (mkF m 11 #[.val (.ref b496), .val (.ref b228)] [(.int (-1 : Int32)), (.ref b496)])) rfl rfl (hb hby d16_11)
  have f509 := f506.same W508
  have N510 := Fr.snoc X508 N504 g_b496
  refine Go.step (fun _ k => st508 _ (XS.aloadN X508.here hx rfl (hb hby d16_14) rfl rfl (XS.aloadN X508.here hx rfl (hb hby d16_15) rfl rfl k))) ?_
  show Go p e below s _ _ _ T508 (mkF m 16 #[.val (.ref b496), .val (.ref b228)] [(.ref b496), (.ref b496)])
  have f511 := (f503.other W508 (Or.inr (slot_ne (Or.inr (tw140 hw)) (Or.inl (tw143 hw)) (by decide) (t := (.object xs37)) (t' := .int) (by decide) (by decide))))
  obtain ⟨T512, X512, e512, st512⟩ := getF X508 hx hZ hown (host := "") (Or.inl (tw139 hw)) Via.refl e508 f511 (g := (mkF m 16 #[.val (.ref b496), .val (.ref b228)] [(.ref b496), (.ref b496)])) rfl rfl (hb hby d16_16)
  refine Go.step (fun _ k => st512 _ k) ?_
  show Go p e below s _ _ _ T512 (mkF m 19 #[.val (.ref b496), .val (.ref b228)] [(.ref b228), (.ref b496)])
  have f514 := ((F_modCount_b228.other W501 (Or.inl ne_b228_b496)).other W508 (Or.inl ne_b228_b496))
  obtain ⟨T515, X515, e515, st515⟩ := getF X512 hx hZ hown (host := "") (Or.inl (tw144 hw)) (Via.of (tw145 hw)) e512 f514 (g := (mkF m 19 #[.val (.ref b496), .val (.ref b228)] [(.ref b228), (.ref b496)])) rfl rfl (hb hby d16_19)
  refine Go.step (fun _ k => st515 _ k) ?_
  show Go p e below s _ _ _ T515 (mkF m 22 #[.val (.ref b496), .val (.ref b228)] [(.int (1 : Int32)), (.ref b496)])
  have f516 := ((F_expectedModCount_b496.other W501 (Or.inr (slot_ne (Or.inl (tw147 hw)) (Or.inr (tw140 hw)) (by decide) (t := .int) (t' := (.object xs37)) (by decide) (by decide)))).other W508 (Or.inr (slot_ne (Or.inl (tw147 hw)) (Or.inl (tw143 hw)) (by decide) (t := .int) (t' := .int) (by decide) (by decide))))
  have f517 := (f507.wr W508)
  obtain ⟨T518, h518, X518, e518, W518, st518⟩ := putF X515 hx hZ hown (host := "") (Or.inl (tw146 hw)) Via.refl e515 f516 f517 (Or.inl (tw147 hw)) (tw133 hw) (ty := .int) (by decide) rfl rfl (g := (mkF m 22 #[.val (.ref b496), .val (.ref b228)] [(.int (1 : Int32)), (.ref b496)])) rfl rfl (hb hby d16_22)
  have f519 := f516.same W518
  have N520 := Fr.snoc X518 N510 g_b496
  refine Go.step (fun _ k => st518 _ k) ?_
  show Go p e below s _ _ _ T518 (mkF m 25 #[.val (.ref b496), .val (.ref b228)] [])
  have f521 := ((((Keep.refl h0 [b496]).wr W501 (Or.inl (List.mem_of_getElem? (i := 0) rfl))).wr W508 (Or.inl (List.mem_of_getElem? (i := 0) rfl))).wr W518 (Or.inl (List.mem_of_getElem? (i := 0) rfl)))
  have f522 := (f511.other W518 (Or.inr (slot_ne (Or.inr (tw140 hw)) (Or.inl (tw147 hw)) (by decide) (t := (.object xs37)) (t' := .int) (by decide) (by decide))))
  have f523 := (f509.other W518 (Or.inr (slot_ne (Or.inl (tw143 hw)) (Or.inl (tw147 hw)) (by decide) (t := .int) (t' := .int) (by decide) (by decide))))
  have f524 := (((F_cursor_b496.other W501 (Or.inr (slot_ne (Or.inl (tw156 hw)) (Or.inr (tw140 hw)) (by decide) (t := .int) (t' := (.object xs37)) (by decide) (by decide)))).other W508 (Or.inr (slot_ne (Or.inl (tw156 hw)) (Or.inl (tw143 hw)) (by decide) (t := .int) (t' := .int) (by decide) (by decide)))).other W518 (Or.inr (slot_ne (Or.inl (tw156 hw)) (Or.inl (tw147 hw)) (by decide) (t := .int) (t' := .int) (by decide) (by decide))))
  have f525 := (Nat.le_trans (Nat.le_trans (Nat.le_trans (Nat.le_refl _) (Keep.of_wr W501).1) (Keep.of_wr W508).1) (Keep.of_wr W518).1)
  exact Go.retV X518 hx hlk Bd.returns (hb hby d16_25) e518 ⟨rfl, N520, f521, f522, f523, f519, f524⟩ (by decide) (by decide)

theorem ef_ArrayList_iterator_1 (m : MethodId) (x0 : Addr) : entryFrame m #[(.ref x0)] 1 = mkF m 0 #[.val (.ref x0)] [] := by first | (simp [entryFrame, mkF, argsToLocals, Value.category]; done) | rfl
def Q_ArrayList_iterator_1 (Z : State) (b228 : Addr) (h0 : Heap) (n0 : Nat) (v : Option Value) (h : Heap) (L : List Loc) : Prop := ∃ (b496 : Addr), v = some (.ref b496) ∧ Fr n0 L ∧ Keep h0 h [] ∧ h0.size ≤ b496 ∧ Exa Z h b496 xs24 ∧ Fld Z h b496 xs24 "this$0" xs29 (.ref b228) ∧ Fld Z h b496 xs24 "lastRet" "I" (.int (-1 : Int32)) ∧ Fld Z h b496 xs24 xs44 "I" (.int (1 : Int32)) ∧ Fld Z h b496 xs24 "cursor" "I" (.int (0 : Int32))
set_option maxRecDepth 65536 in
set_option maxHeartbeats 40000000 in
theorem rm_ArrayList_iterator_1 (l : Launch) (Z : State) (a0 : Array Value) (hw : ∀ d ∈ tables_1, d.before a0 Z = true) (ws : List Jvm.Cond) (b228 : Addr) (h0 : Heap) (n0 : Nat) (Z0 : n0 ≤ h0.size) (F_modCount_b228 : Fld Z h0 b228 xs26 "modCount" "I" (.int (1 : Int32))) :
    MetFree l xm4 (head1 (Jvm.Cond.code xm4 jdk_38_method_55_code 1 (some (.object xs39)) :: ws) xr12) (fun a U => a = #[(.ref b228)] ∧ Z.Warmed39 U.vm ∧ U.heap = h0) (fun _ _ _ _ _ => True) (fun _ U o U' => ∃ v L, o = .returned v ∧ Q_ArrayList_iterator_1 Z b228 h0 n0 v U'.heap L ∧ FrameEnd U o U' L xr12.cells xr12.slots) := by
  refine MetFree.of_bodySF (plainFor_of_name pn_9) hisR ?_
  intro p e s m args below meth c s₁ Bd hml0 hP hK
  obtain ⟨rfl, hZ, hh⟩ := hP
  have hx := Bd.exec
  have hby := Bd.bytes
  have hlk : meth.locks = false := BodyLoose.notSynchronized Bd
  have hml : c.maxLocals = 1 := hml0
  have hown : s.vm.findClass xs37 = some m.cls := findClass_of_methodNamed Bd.named
  have hnm := (name_of_methodNamed Bd.named Bd.method).1
  have X0 : Stand p l e xr12 s m #[(.ref b228)] below meth c s₁ [] 0 0 := Stand.of_body Bd
  have e0 : s₁.heap = h0 := by rw [← hh, Bd.state]; rfl
  have N0 := Fr.nil n0
  show Go p e below s (Q_ArrayList_iterator_1 Z b228 h0 n0) xr12.cells xr12.slots s₁ (entryFrame m #[(.ref b228)] 1)
  refine Go.cast (ef_ArrayList_iterator_1 m b228) ?_
  show Go p e below s _ _ _ s₁ (mkF m 0 #[.val (.ref b228)] [])
  obtain ⟨T496, h496, X496, e496, E496, A496, D496, -, st496⟩ := newO X0 hx hZ hown (tw132 hw) (tw133 hw) (tw134 hw) e0 (g := (mkF m 0 #[.val (.ref b228)] [])) rfl (hb hby d15_0) (by decide) (by decide)
  obtain ⟨b496, g496⟩ : ∃ z, z = h0.size := ⟨_, rfl⟩
  rw [← g496] at A496 D496 st496
  have f497 : Fld Z h496 b496 xs24 "this$0" xs29 .null := D496 (Or.inr (tw140 hw)) (ty := (.object xs37)) (by decide)
  have f498 : Fld Z h496 b496 xs24 "lastRet" "I" (.int (0 : Int32)) := D496 (Or.inl (tw143 hw)) (ty := .int) (by decide)
  have f499 : Fld Z h496 b496 xs24 xs44 "I" (.int (0 : Int32)) := D496 (Or.inl (tw147 hw)) (ty := .int) (by decide)
  have f500 : Fld Z h496 b496 xs24 "cursor" "I" (.int (0 : Int32)) := D496 (Or.inl (tw156 hw)) (ty := .int) (by decide)
  refine Go.step (fun _ k => st496 _ (XS.dup X496.here hx rfl (hb hby d15_3) rfl rfl (XS.aloadN X496.here hx rfl (hb hby d15_4) rfl rfl k))) ?_
  show Go p e below s _ _ _ T496 (mkF m 5 #[.val (.ref b228)] [(.ref b228), (.ref b496), (.ref b496)])
  have g502 := Nat.le_trans Z0 (Nat.le_of_eq g496.symm)
  have ne513 : b228 ≠ b496 := Nat.ne_of_lt (Nat.lt_of_lt_of_le F_modCount_b228.lt (Nat.le_of_eq g496.symm))
  have f526 := (Nat.le_trans Z0 E496.1)
  have f527 := (F_modCount_b228.ext E496)
  obtain ⟨_, _, ⟨T528, L528, k528, n528⟩, -, X528, ⟨Lc528, hQ528, l528, y528, z528⟩, st528⟩ := X496.specialBack hx (y := xm12) rfl hown (mvT hZ (tw135 hw)) (mvT hZ (tw136 hw)) (mvT hZ (tw138 hw)) (by decide) (backOf (W := 1) (rm_ArrayList_Itr_new_1 l Z a0 hw [] b496 b228 h496 n0 f526 A496 f497 g502 f498 f527 ne513 f499 f500) hZ (tw138 hw) (tw134 hw) (by decide) (by decide)) (g := (mkF m 5 #[.val (.ref b228)] [(.ref b228), (.ref b496), (.ref b496)])) rfl (by rw [hml]; rfl) (Steps.refl _) (a := b496) (argsL := [(.ref b228)]) (rest := [(.ref b496)]) (lenOf pd_8 rfl) rfl (by show 2 * 0 + _ ≤ _; exact Nat.le_of_eq rfl) (hb hby d15_5) (fun _ _ => ⟨rfl, e496, (by decide : 1 + 0 ≤ _), (by decide : 4 + 0 ≤ _)⟩)
  dsimp only [Pt.U, Pt.locs, Pt.cells, Pt.slots] at X528 l528 y528 z528 st528 hQ528
  subst l528 y528 z528
  obtain ⟨rfl, N528q, K528, P528_0, P528_1, P528_2, P528_3⟩ := hQ528
  have N529 := Fr.app N0 N528q
  refine Go.step (fun _ k => st528.trans k) ?_
  show Go p e below s _ _ _ T528 (mkF m 8 #[.val (.ref b228)] [(.ref b496)])
  have z530 := Nat.le_trans (Nat.le_refl _) (Nat.le_of_eq g496.symm)
  have f531 := (((Keep.refl h0 []).ext E496).trans K528 (allS (Or.inr z530) all0))
  have f532 := (A496.keep K528)
  have f533 := (Nat.le_trans (Nat.le_trans (Nat.le_refl _) E496.1) K528.1)
  exact Go.retA X528 hx hlk Bd.returns rfl rfl (hb hby d15_8) rfl ⟨b496, rfl, N529, f531, z530, f532, P528_0, P528_1, P528_2, P528_3⟩ (by decide) (by decide)

theorem ef_ArrayList_Itr_hasNext_1 (m : MethodId) (x0 : Addr) : entryFrame m #[(.ref x0)] 1 = mkF m 0 #[.val (.ref x0)] [] := by first | (simp [entryFrame, mkF, argsToLocals, Value.category]; done) | rfl
def Q_ArrayList_Itr_hasNext_1 (Z : State) (b496_538 : Addr) (b228 : Addr) (h0 : Heap) (n0 : Nat) (v : Option Value) (h : Heap) (L : List Loc) : Prop := v = some (.int (1 : Int32)) ∧ Fr n0 L ∧ h = h0
set_option maxRecDepth 65536 in
set_option maxHeartbeats 40000000 in
theorem rm_ArrayList_Itr_hasNext_1 (l : Launch) (Z : State) (a0 : Array Value) (hw : ∀ d ∈ tables_1, d.before a0 Z = true) (ws : List Jvm.Cond) (b496_538 : Addr) (b228 : Addr) (h0 : Heap) (n0 : Nat) (Z0 : n0 ≤ h0.size) (F_cursor_b496_538 : Fld Z h0 b496_538 xs24 "cursor" "I" (.int (0 : Int32))) (F_this_0_b496_538 : Fld Z h0 b496_538 xs24 "this$0" xs29 (.ref b228)) (F_size_b228 : Fld Z h0 b228 xs37 "size" "I" (.int (1 : Int32))) :
    MetFree l xm5 (head1 (Jvm.Cond.code xm5 jdk_49_method_2_code 1 (some .boolean) :: ws) xr15) (fun a U => a = #[(.ref b496_538)] ∧ Z.Warmed39 U.vm ∧ U.heap = h0) (fun _ _ _ _ _ => True) (fun _ U o U' => ∃ v L, o = .returned v ∧ Q_ArrayList_Itr_hasNext_1 Z b496_538 b228 h0 n0 v U'.heap L ∧ FrameEnd U o U' L xr15.cells xr15.slots) := by
  refine MetFree.of_bodySF (plainFor_of_name pn_12) hisR ?_
  intro p e s m args below meth c s₁ Bd hml0 hP hK
  obtain ⟨rfl, hZ, hh⟩ := hP
  have hx := Bd.exec
  have hby := Bd.bytes
  have hlk : meth.locks = false := BodyLoose.notSynchronized Bd
  have hml : c.maxLocals = 1 := hml0
  have hown : s.vm.findClass xs24 = some m.cls := findClass_of_methodNamed Bd.named
  have hnm := (name_of_methodNamed Bd.named Bd.method).1
  have X0 : Stand p l e xr15 s m #[(.ref b496_538)] below meth c s₁ [] 0 0 := Stand.of_body Bd
  have e0 : s₁.heap = h0 := by rw [← hh, Bd.state]; rfl
  have N0 := Fr.nil n0
  show Go p e below s (Q_ArrayList_Itr_hasNext_1 Z b496_538 b228 h0 n0) xr15.cells xr15.slots s₁ (entryFrame m #[(.ref b496_538)] 1)
  refine Go.cast (ef_ArrayList_Itr_hasNext_1 m b496_538) ?_
  show Go p e below s _ _ _ s₁ (mkF m 0 #[.val (.ref b496_538)] [])
  refine Go.step (fun _ k => XS.aloadN X0.here hx rfl (hb hby d17_0) rfl rfl k) ?_
  show Go p e below s _ _ _ s₁ (mkF m 1 #[.val (.ref b496_538)] [(.ref b496_538)])
  obtain ⟨T541, X541, e541, st541⟩ := getF X0 hx hZ hown (host := "") (Or.inl (tw155 hw)) Via.refl e0 F_cursor_b496_538 (g := (mkF m 1 #[.val (.ref b496_538)] [(.ref b496_538)])) rfl rfl (hb hby d17_1)
  refine Go.step (fun _ k => st541 _ (XS.aloadN X541.here hx rfl (hb hby d17_4) rfl rfl k)) ?_
  show Go p e below s _ _ _ T541 (mkF m 5 #[.val (.ref b496_538)] [(.ref b496_538), (.int (0 : Int32))])
  obtain ⟨T542, X542, e542, st542⟩ := getF X541 hx hZ hown (host := "") (Or.inl (tw139 hw)) Via.refl e541 F_this_0_b496_538 (g := (mkF m 5 #[.val (.ref b496_538)] [(.ref b496_538), (.int (0 : Int32))])) rfl rfl (hb hby d17_5)
  refine Go.step (fun _ k => st542 _ k) ?_
  show Go p e below s _ _ _ T542 (mkF m 8 #[.val (.ref b496_538)] [(.ref b228), (.int (0 : Int32))])
  obtain ⟨T543, X543, e543, st543⟩ := getF X542 hx hZ hown (Or.inr (tw157 hw)) Via.refl e542 F_size_b228 (g := (mkF m 8 #[.val (.ref b496_538)] [(.ref b228), (.int (0 : Int32))])) rfl rfl (hb hby d17_8)
  refine Go.step (fun _ k => st543 _ (XS.icmpNo X543.here hx rfl (hb hby d17_11) rfl (feq (by decide)).1 (XS.iconst X543.here hx rfl (hb hby d17_14) (XS.goto X543.here hx rfl (pc0 := 15) (pc' := 19) rfl (hb hby d17_15) (by decide) (by decide) k)))) ?_
  show Go p e below s _ _ _ T543 (mkF m 19 #[.val (.ref b496_538)] [(.int (1 : Int32))])
  exact Go.retN X543 hx hlk (t := .boolean) Bd.returns (by simp) (hb hby d17_19) e543 ⟨rfl, N0, rfl⟩ (by decide) (by decide)

theorem ef_ArrayList_Itr_checkForComodification_0 (m : MethodId) (x0 : Addr) : entryFrame m #[(.ref x0)] 1 = mkF m 0 #[.val (.ref x0)] [] := by first | (simp [entryFrame, mkF, argsToLocals, Value.category]; done) | rfl
def Q_ArrayList_Itr_checkForComodification_0 (Z : State) (b496_538 : Addr) (b228 : Addr) (h0 : Heap) (n0 : Nat) (v : Option Value) (h : Heap) (L : List Loc) : Prop := v = none ∧ Fr n0 L ∧ h = h0
set_option maxRecDepth 65536 in
set_option maxHeartbeats 40000000 in
theorem rm_ArrayList_Itr_checkForComodification_0 (l : Launch) (Z : State) (a0 : Array Value) (hw : ∀ d ∈ tables_1, d.before a0 Z = true) (ws : List Jvm.Cond) (b496_538 : Addr) (b228 : Addr) (h0 : Heap) (n0 : Nat) (Z0 : n0 ≤ h0.size) (F_this_0_b496_538 : Fld Z h0 b496_538 xs24 "this$0" xs29 (.ref b228)) (F_modCount_b228 : Fld Z h0 b228 xs26 "modCount" "I" (.int (1 : Int32))) (F_expectedModCount_b496_538 : Fld Z h0 b496_538 xs24 xs44 "I" (.int (1 : Int32))) :
    MetFree l xm29 (head1 (Jvm.Cond.code xm29 jdk_49_method_6_code 1 none :: ws) xr15) (fun a U => a = #[(.ref b496_538)] ∧ Z.Warmed39 U.vm ∧ U.heap = h0) (fun _ _ _ _ _ => True) (fun _ U o U' => ∃ v L, o = .returned v ∧ Q_ArrayList_Itr_checkForComodification_0 Z b496_538 b228 h0 n0 v U'.heap L ∧ FrameEnd U o U' L xr15.cells xr15.slots) := by
  refine MetFree.of_bodySF (plainFor_of_name pn_12) hisR ?_
  intro p e s m args below meth c s₁ Bd hml0 hP hK
  obtain ⟨rfl, hZ, hh⟩ := hP
  have hx := Bd.exec
  have hby := Bd.bytes
  have hlk : meth.locks = false := BodyLoose.notSynchronized Bd
  have hml : c.maxLocals = 1 := hml0
  have hown : s.vm.findClass xs24 = some m.cls := findClass_of_methodNamed Bd.named
  have hnm := (name_of_methodNamed Bd.named Bd.method).1
  have X0 : Stand p l e xr15 s m #[(.ref b496_538)] below meth c s₁ [] 0 0 := Stand.of_body Bd
  have e0 : s₁.heap = h0 := by rw [← hh, Bd.state]; rfl
  have N0 := Fr.nil n0
  show Go p e below s (Q_ArrayList_Itr_checkForComodification_0 Z b496_538 b228 h0 n0) xr15.cells xr15.slots s₁ (entryFrame m #[(.ref b496_538)] 1)
  refine Go.cast (ef_ArrayList_Itr_checkForComodification_0 m b496_538) ?_
  show Go p e below s _ _ _ s₁ (mkF m 0 #[.val (.ref b496_538)] [])
  refine Go.step (fun _ k => XS.aloadN X0.here hx rfl (hb hby d25_0) rfl rfl k) ?_
  show Go p e below s _ _ _ s₁ (mkF m 1 #[.val (.ref b496_538)] [(.ref b496_538)])
  obtain ⟨T548, X548, e548, st548⟩ := getF X0 hx hZ hown (host := "") (Or.inl (tw139 hw)) Via.refl e0 F_this_0_b496_538 (g := (mkF m 1 #[.val (.ref b496_538)] [(.ref b496_538)])) rfl rfl (hb hby d25_1)
  refine Go.step (fun _ k => st548 _ k) ?_
  show Go p e below s _ _ _ T548 (mkF m 4 #[.val (.ref b496_538)] [(.ref b228)])
  obtain ⟨T549, X549, e549, st549⟩ := getF X548 hx hZ hown (host := "") (Or.inl (tw144 hw)) (Via.of (tw145 hw)) e548 F_modCount_b228 (g := (mkF m 4 #[.val (.ref b496_538)] [(.ref b228)])) rfl rfl (hb hby d25_4)
  refine Go.step (fun _ k => st549 _ (XS.aloadN X549.here hx rfl (hb hby d25_7) rfl rfl k)) ?_
  show Go p e below s _ _ _ T549 (mkF m 8 #[.val (.ref b496_538)] [(.ref b496_538), (.int (1 : Int32))])
  obtain ⟨T550, X550, e550, st550⟩ := getF X549 hx hZ hown (host := "") (Or.inl (tw146 hw)) Via.refl e549 F_expectedModCount_b496_538 (g := (mkF m 8 #[.val (.ref b496_538)] [(.ref b496_538), (.int (1 : Int32))])) rfl rfl (hb hby d25_8)
  refine Go.step (fun _ k => st550 _ (XS.icmpYes X550.here hx rfl (pc0 := 11) (pc' := 22) rfl (hb hby d25_11) rfl (teq (by decide)).1 (by decide) (by decide) k)) ?_
  show Go p e below s _ _ _ T550 (mkF m 22 #[.val (.ref b496_538)] [])
  exact Go.retV X550 hx hlk Bd.returns (hb hby d25_22) e550 ⟨rfl, N0, rfl⟩ (by decide) (by decide)

theorem ef_ArrayList_Itr_next_0 (m : MethodId) (x0 : Addr) : entryFrame m #[(.ref x0)] 3 = mkF m 0 #[.val (.ref x0), .unset, .unset] [] := by first | (simp [entryFrame, mkF, argsToLocals, Value.category]; done) | rfl
def Q_ArrayList_Itr_next_0 (Z : State) (b496_538 : Addr) (b228 : Addr) (b425_439_444_467_482 : Addr) (k425_439_444_467_482 : ClassId) (b385 : Addr) (h0 : Heap) (n0 : Nat) (v : Option Value) (h : Heap) (L : List Loc) : Prop := v = some (.ref b385) ∧ Fr n0 L ∧ Keep h0 h [b496_538] ∧ Fld Z h b496_538 xs24 "this$0" xs29 (.ref b228) ∧ Fld Z h b496_538 xs24 xs44 "I" (.int (1 : Int32)) ∧ Fld Z h b496_538 xs24 "cursor" "I" (.int (1 : Int32)) ∧ Fld Z h b496_538 xs24 "lastRet" "I" (.int (0 : Int32))
set_option maxRecDepth 65536 in
set_option maxHeartbeats 40000000 in
theorem rm_ArrayList_Itr_next_0 (l : Launch) (Z : State) (a0 : Array Value) (hw : ∀ d ∈ tables_1, d.before a0 Z = true) (ws : List Jvm.Cond) (b496_538 : Addr) (b228 : Addr) (b425_439_444_467_482 : Addr) (k425_439_444_467_482 : ClassId) (b385 : Addr) (h0 : Heap) (n0 : Nat) (Z0 : n0 ≤ h0.size) (E_b496_538 : Exa Z h0 b496_538 xs24) (F_this_0_b496_538 : Fld Z h0 b496_538 xs24 "this$0" xs29 (.ref b228)) (F_modCount_b228 : Fld Z h0 b228 xs26 "modCount" "I" (.int (1 : Int32))) (F_expectedModCount_b496_538 : Fld Z h0 b496_538 xs24 xs44 "I" (.int (1 : Int32))) (F_cursor_b496_538 : Fld Z h0 b496_538 xs24 "cursor" "I" (.int (0 : Int32))) (F_size_b228 : Fld Z h0 b228 xs37 "size" "I" (.int (1 : Int32))) (F_elementData_b228 : Fld Z h0 b228 xs37 "elementData" xs35 (.ref b425_439_444_467_482)) (V_b425_439_444_467_482 : Arv Z h0 b425_439_444_467_482 k425_439_444_467_482 (.object xs41) (10 : Int32) [(.ref b385), .null, .null, .null, .null, .null, .null, .null, .null, .null] .null) (g_b496_538 : n0 ≤ b496_538) (F_lastRet_b496_538 : Fld Z h0 b496_538 xs24 "lastRet" "I" (.int (-1 : Int32))) (ne_b425_439_444_467_482_b496_538 : b425_439_444_467_482 ≠ b496_538) :
    MetFree l xm23 (head1 (Jvm.Cond.code xm23 jdk_49_method_3_code 3 (some (.object xs41)) :: ws) xr4) (fun a U => a = #[(.ref b496_538)] ∧ Z.Warmed39 U.vm ∧ U.heap = h0) (fun _ _ _ _ _ => True) (fun _ U o U' => ∃ v L, o = .returned v ∧ Q_ArrayList_Itr_next_0 Z b496_538 b228 b425_439_444_467_482 k425_439_444_467_482 b385 h0 n0 v U'.heap L ∧ FrameEnd U o U' L xr4.cells xr4.slots) := by
  refine MetFree.of_bodySF (plainFor_of_name pn_12) hisR ?_
  intro p e s m args below meth c s₁ Bd hml0 hP hK
  obtain ⟨rfl, hZ, hh⟩ := hP
  have hx := Bd.exec
  have hby := Bd.bytes
  have hlk : meth.locks = false := BodyLoose.notSynchronized Bd
  have hml : c.maxLocals = 3 := hml0
  have hown : s.vm.findClass xs24 = some m.cls := findClass_of_methodNamed Bd.named
  have hnm := (name_of_methodNamed Bd.named Bd.method).1
  have X0 : Stand p l e xr4 s m #[(.ref b496_538)] below meth c s₁ [] 0 0 := Stand.of_body Bd
  have e0 : s₁.heap = h0 := by rw [← hh, Bd.state]; rfl
  have N0 := Fr.nil n0
  show Go p e below s (Q_ArrayList_Itr_next_0 Z b496_538 b228 b425_439_444_467_482 k425_439_444_467_482 b385 h0 n0) xr4.cells xr4.slots s₁ (entryFrame m #[(.ref b496_538)] 3)
  refine Go.cast (ef_ArrayList_Itr_next_0 m b496_538) ?_
  show Go p e below s _ _ _ s₁ (mkF m 0 #[.val (.ref b496_538), .unset, .unset] [])
  refine Go.step (fun _ k => XS.aloadN X0.here hx rfl (hb hby d24_0) rfl rfl k) ?_
  show Go p e below s _ _ _ s₁ (mkF m 1 #[.val (.ref b496_538), .unset, .unset] [(.ref b496_538)])
  obtain ⟨cq551, kq551, q551a, q551b, q551c⟩ := isOf hZ e0 E_b496_538
  obtain ⟨_, _, ⟨T551, L551, k551, n551⟩, -, X551, ⟨Lc551, hQ551, l551, y551, z551⟩, st551⟩ := X0.virtualBack hx (y := xm29) (z := xm29) hown (mvT hZ (tw224 hw)) (mvT hZ (tw225 hw)) (notFace_of_selects (args := #[]) (mvT hZ (tw227 hw))) (mvT hZ (tw227 hw)) (mvT hZ (tw226 hw)) (by decide) (backOf (W := 0) (rm_ArrayList_Itr_checkForComodification_0 l Z a0 hw [] b496_538 b228 h0 n0 Z0 F_this_0_b496_538 F_modCount_b228 F_expectedModCount_b496_538) hZ (tw228 hw) (tw134 hw) (by decide) (by decide)) q551a q551c (g := (mkF m 1 #[.val (.ref b496_538), .unset, .unset] [(.ref b496_538)])) rfl (by rw [hml]; rfl) (Steps.refl _) (argsL := []) (rest := []) (lenOf pd_7 rfl) rfl (by show 2 * 0 + _ ≤ _; exact Nat.le_of_eq rfl) (hb hby d24_1) (fun _ _ => ⟨rfl, e0, (by decide : 0 + 0 ≤ _), (by decide : 0 + 0 ≤ _)⟩)
  dsimp only [Pt.U, Pt.locs, Pt.cells, Pt.slots] at X551 l551 y551 z551 st551 hQ551
  subst l551 y551 z551
  obtain ⟨rfl, N551q, eq551⟩ := hQ551
  have N552 := Fr.app N0 N551q
  refine Go.step (fun _ k => st551.trans (XS.aloadN X551.here hx rfl (hb hby d24_4) rfl rfl k)) ?_
  show Go p e below s _ _ _ T551 (mkF m 5 #[.val (.ref b496_538), .unset, .unset] [(.ref b496_538)])
  obtain ⟨T553, X553, e553, st553⟩ := getF X551 hx hZ hown (host := "") (Or.inl (tw155 hw)) Via.refl eq551 F_cursor_b496_538 (g := (mkF m 5 #[.val (.ref b496_538), .unset, .unset] [(.ref b496_538)])) rfl rfl (hb hby d24_5)
  refine Go.step (fun _ k => st553 _ (XS.istoreN X553.here hx rfl (hb hby d24_8) rfl (l' := #[.val (.ref b496_538), .val (.int (0 : Int32)), .unset]) rfl (XS.iloadN X553.here hx rfl (hb hby d24_9) rfl (XS.aloadN X553.here hx rfl (hb hby d24_10) rfl rfl k)))) ?_
  show Go p e below s _ _ _ T553 (mkF m 11 #[.val (.ref b496_538), .val (.int (0 : Int32)), .unset] [(.ref b496_538), (.int (0 : Int32))])
  obtain ⟨T554, X554, e554, st554⟩ := getF X553 hx hZ hown (host := "") (Or.inl (tw139 hw)) Via.refl e553 F_this_0_b496_538 (g := (mkF m 11 #[.val (.ref b496_538), .val (.int (0 : Int32)), .unset] [(.ref b496_538), (.int (0 : Int32))])) rfl rfl (hb hby d24_11)
  refine Go.step (fun _ k => st554 _ k) ?_
  show Go p e below s _ _ _ T554 (mkF m 14 #[.val (.ref b496_538), .val (.int (0 : Int32)), .unset] [(.ref b228), (.int (0 : Int32))])
  obtain ⟨T555, X555, e555, st555⟩ := getF X554 hx hZ hown (Or.inr (tw157 hw)) Via.refl e554 F_size_b228 (g := (mkF m 14 #[.val (.ref b496_538), .val (.int (0 : Int32)), .unset] [(.ref b228), (.int (0 : Int32))])) rfl rfl (hb hby d24_14)
  refine Go.step (fun _ k => st555 _ (XS.icmpYes X555.here hx rfl (pc0 := 17) (pc' := 28) rfl (hb hby d24_17) rfl (tlt (by decide)).1 (by decide) (by decide) (XS.aloadN X555.here hx rfl (hb hby d24_28) rfl rfl k))) ?_
  show Go p e below s _ _ _ T555 (mkF m 29 #[.val (.ref b496_538), .val (.int (0 : Int32)), .unset] [(.ref b496_538)])
  obtain ⟨T556, X556, e556, st556⟩ := getF X555 hx hZ hown (host := "") (Or.inl (tw139 hw)) Via.refl e555 F_this_0_b496_538 (g := (mkF m 29 #[.val (.ref b496_538), .val (.int (0 : Int32)), .unset] [(.ref b496_538)])) rfl rfl (hb hby d24_29)
  refine Go.step (fun _ k => st556 _ k) ?_
  show Go p e below s _ _ _ T556 (mkF m 32 #[.val (.ref b496_538), .val (.int (0 : Int32)), .unset] [(.ref b228)])
  obtain ⟨T557, X557, e557, st557⟩ := getF X556 hx hZ hown (host := "") (Or.inl (tw229 hw)) Via.refl e556 F_elementData_b228 (g := (mkF m 32 #[.val (.ref b496_538), .val (.int (0 : Int32)), .unset] [(.ref b228)])) rfl rfl (hb hby d24_32)
  refine Go.step (fun _ k => st557 _ (XS.astoreN X557.here hx rfl (hb hby d24_35) rfl rfl (l' := #[.val (.ref b496_538), .val (.int (0 : Int32)), .val (.ref b425_439_444_467_482)]) rfl (XS.iloadN X557.here hx rfl (hb hby d24_36) rfl (XS.aloadN X557.here hx rfl (hb hby d24_37) rfl rfl k)))) ?_
  show Go p e below s _ _ _ T557 (mkF m 38 #[.val (.ref b496_538), .val (.int (0 : Int32)), .val (.ref b425_439_444_467_482)] [(.ref b425_439_444_467_482), (.int (0 : Int32))])
  obtain ⟨cl558, Ar558, -, Sz558, Ng558, -, -⟩ := id V_b425_439_444_467_482
  have aln558 := X557.arraylength hx (by rw [e557]; exact Ar558.1) (State.isArrayOf_alike hZ.alike Ar558.2.1) (g := (mkF m 38 #[.val (.ref b496_538), .val (.int (0 : Int32)), .val (.ref b425_439_444_467_482)] [(.ref b425_439_444_467_482), (.int (0 : Int32))])) rfl rfl (hb hby d24_38)
  rw [len_of Sz558 Ng558] at aln558
  refine Go.step (fun _ k => aln558 _ (XS.icmpYes X557.here hx rfl (pc0 := 39) (pc' := 50) rfl (hb hby d24_39) rfl (tlt (by decide)).1 (by decide) (by decide) (XS.aloadN X557.here hx rfl (hb hby d24_50) rfl rfl (XS.iloadN X557.here hx rfl (hb hby d24_51) rfl (XS.iconst X557.here hx rfl (hb hby d24_52) (XS.iadd X557.here hx rfl (hb hby d24_53) rfl k)))))) ?_
  show Go p e below s _ _ _ T557 (mkF m 54 #[.val (.ref b496_538), .val (.int (0 : Int32)), .val (.ref b425_439_444_467_482)] [(.int (1 : Int32)), (.ref b496_538)])
  obtain ⟨T559, h559, X559, e559, W559, st559⟩ := putF X557 hx hZ hown (host := "") (Or.inl (tw155 hw)) Via.refl e557 F_cursor_b496_538 E_b496_538 (Or.inl (tw156 hw)) (tw133 hw) (ty := .int) (by decide) rfl rfl (g := (mkF m 54 #[.val (.ref b496_538), .val (.int (0 : Int32)), .val (.ref b425_439_444_467_482)] [(.int (1 : Int32)), (.ref b496_538)])) rfl rfl (hb hby d24_54)
  have f561 := F_cursor_b496_538.same W559
  have N562 := Fr.snoc X559 N552 g_b496_538
  refine Go.step (fun _ k => st559 _ (XS.aloadN X559.here hx rfl (hb hby d24_57) rfl rfl (XS.aloadN X559.here hx rfl (hb hby d24_58) rfl rfl (XS.iloadN X559.here hx rfl (hb hby d24_59) rfl (XS.dupX1 X559.here hx rfl (hb hby d24_60) rfl rfl rfl k))))) ?_
  show Go p e below s _ _ _ T559 (mkF m 61 #[.val (.ref b496_538), .val (.int (0 : Int32)), .val (.ref b425_439_444_467_482)] [(.int (0 : Int32)), (.ref b496_538), (.int (0 : Int32)), (.ref b425_439_444_467_482)])
  have f563 := (F_lastRet_b496_538.other W559 (Or.inr (slot_ne (Or.inl (tw143 hw)) (Or.inl (tw156 hw)) (by decide) (t := .int) (t' := .int) (by decide) (by decide))))
  have f564 := (E_b496_538.wr W559)
  obtain ⟨T565, h565, X565, e565, W565, st565⟩ := putF X559 hx hZ hown (host := "") (Or.inl (tw142 hw)) Via.refl e559 f563 f564 (Or.inl (tw143 hw)) (tw133 hw) (ty := .int) (by decide) rfl rfl (g := (mkF m 61 #[.val (.ref b496_538), .val (.int (0 : Int32)), .val (.ref b425_439_444_467_482)] [(.int (0 : Int32)), (.ref b496_538), (.int (0 : Int32)), (.ref b425_439_444_467_482)])) rfl rfl (hb hby d24_61)
  have f566 := f563.same W565
  have N567 := Fr.snoc X565 N562 g_b496_538
  refine Go.step (fun _ k => st565 _ k) ?_
  show Go p e below s _ _ _ T565 (mkF m 64 #[.val (.ref b496_538), .val (.int (0 : Int32)), .val (.ref b425_439_444_467_482)] [(.int (0 : Int32)), (.ref b425_439_444_467_482)])
  have f571 := ((V_b425_439_444_467_482.other W559 ne_b425_439_444_467_482_b496_538).other W565 ne_b425_439_444_467_482_b496_538)
  obtain ⟨cl572, Ar572, -, Sz572, Ng572, Hs572, Ft572⟩ := id f571
  have in572 : ¬ ((0 : Int32) < 0 ∨ cl572.slots.size ≤ ((0 : Int32)).toNatClampNeg) := (inb_of Sz572 ⟨by decide, by decide⟩)
  have at572 : cl572.slots[((0 : Int32)).toNatClampNeg]? = some (.ref b385) := Hs572.at in572 rfl
  refine Go.step (fun _ k => X565.aaload hx (j := (0 : Int32)) (v := (.ref b385)) (by rw [e565]; exact Ar572.1) (State.isArrayOf_alike hZ.alike Ar572.2.1) rfl Ar572.2.2 in572 at572 (g := (mkF m 64 #[.val (.ref b496_538), .val (.int (0 : Int32)), .val (.ref b425_439_444_467_482)] [(.int (0 : Int32)), (.ref b425_439_444_467_482)])) rfl rfl (hb hby d24_64) _ k) ?_
  show Go p e below s _ _ _ T565 (mkF m 65 #[.val (.ref b496_538), .val (.int (0 : Int32)), .val (.ref b425_439_444_467_482)] [(.ref b385)])
  have f573 := (((Keep.refl h0 [b496_538]).wr W559 (Or.inl (List.mem_of_getElem? (i := 0) rfl))).wr W565 (Or.inl (List.mem_of_getElem? (i := 0) rfl)))
  have f574 := ((F_this_0_b496_538.other W559 (Or.inr (slot_ne (Or.inr (tw140 hw)) (Or.inl (tw156 hw)) (by decide) (t := (.object xs37)) (t' := .int) (by decide) (by decide)))).other W565 (Or.inr (slot_ne (Or.inr (tw140 hw)) (Or.inl (tw143 hw)) (by decide) (t := (.object xs37)) (t' := .int) (by decide) (by decide))))
  have f575 := ((F_expectedModCount_b496_538.other W559 (Or.inr (slot_ne (Or.inl (tw147 hw)) (Or.inl (tw156 hw)) (by decide) (t := .int) (t' := .int) (by decide) (by decide)))).other W565 (Or.inr (slot_ne (Or.inl (tw147 hw)) (Or.inl (tw143 hw)) (by decide) (t := .int) (t' := .int) (by decide) (by decide))))
  have f576 := (f561.other W565 (Or.inr (slot_ne (Or.inl (tw156 hw)) (Or.inl (tw143 hw)) (by decide) (t := .int) (t' := .int) (by decide) (by decide))))
  have f577 := (Nat.le_trans (Nat.le_trans (Nat.le_refl _) (Keep.of_wr W559).1) (Keep.of_wr W565).1)
  exact Go.retA X565 hx hlk Bd.returns rfl rfl (hb hby d24_65) e565 ⟨rfl, N567, f573, f574, f575, f576, f566⟩ (by decide) (by decide)

theorem ef_Assignment_target_0 (m : MethodId) (x0 : Addr) : entryFrame m #[(.ref x0)] 1 = mkF m 0 #[.val (.ref x0)] [] := by first | (simp [entryFrame, mkF, argsToLocals, Value.category]; done) | rfl
def Q_Assignment_target_0 (Z : State) (b385 : Addr) (u1 : Addr) (h0 : Heap) (n0 : Nat) (v : Option Value) (h : Heap) (L : List Loc) : Prop := v = some (.ref u1) ∧ Fr n0 L ∧ h = h0
set_option maxRecDepth 65536 in
set_option maxHeartbeats 40000000 in
theorem rm_Assignment_target_0 (l : Launch) (Z : State) (a0 : Array Value) (hw : ∀ d ∈ tables_1, d.before a0 Z = true) (ws : List Jvm.Cond) (b385 : Addr) (u1 : Addr) (h0 : Heap) (n0 : Nat) (Z0 : n0 ≤ h0.size) (F_target_b385 : Fld Z h0 b385 xs7 "target" xs8 (.ref u1)) :
    MetFree l xm24 (head1 (Jvm.Cond.code xm24 prog_67_method_2_code 1 (some (.object xs9)) :: ws) xr15) (fun a U => a = #[(.ref b385)] ∧ Z.Warmed39 U.vm ∧ U.heap = h0) (fun _ _ _ _ _ => True) (fun _ U o U' => ∃ v L, o = .returned v ∧ Q_Assignment_target_0 Z b385 u1 h0 n0 v U'.heap L ∧ FrameEnd U o U' L xr15.cells xr15.slots) := by
  refine MetFree.of_bodySF (plainFor_of_name pn_13) hisR ?_
  intro p e s m args below meth c s₁ Bd hml0 hP hK
  obtain ⟨rfl, hZ, hh⟩ := hP
  have hx := Bd.exec
  have hby := Bd.bytes
  have hlk : meth.locks = false := BodyLoose.notSynchronized Bd
  have hml : c.maxLocals = 1 := hml0
  have hown : s.vm.findClass xs7 = some m.cls := findClass_of_methodNamed Bd.named
  have hnm := (name_of_methodNamed Bd.named Bd.method).1
  have X0 : Stand p l e xr15 s m #[(.ref b385)] below meth c s₁ [] 0 0 := Stand.of_body Bd
  have e0 : s₁.heap = h0 := by rw [← hh, Bd.state]; rfl
  have N0 := Fr.nil n0
  show Go p e below s (Q_Assignment_target_0 Z b385 u1 h0 n0) xr15.cells xr15.slots s₁ (entryFrame m #[(.ref b385)] 1)
  refine Go.cast (ef_Assignment_target_0 m b385) ?_
  show Go p e below s _ _ _ s₁ (mkF m 0 #[.val (.ref b385)] [])
  refine Go.step (fun _ k => XS.aloadN X0.here hx rfl (hb hby d26_0) rfl rfl k) ?_
  show Go p e below s _ _ _ s₁ (mkF m 1 #[.val (.ref b385)] [(.ref b385)])
  obtain ⟨T589, X589, e589, st589⟩ := getF X0 hx hZ hown (host := "") (Or.inl (tw180 hw)) Via.refl e0 F_target_b385 (g := (mkF m 1 #[.val (.ref b385)] [(.ref b385)])) rfl rfl (hb hby d26_1)
  refine Go.step (fun _ k => st589 _ k) ?_
  show Go p e below s _ _ _ T589 (mkF m 4 #[.val (.ref b385)] [(.ref u1)])
  exact Go.retA X589 hx hlk Bd.returns rfl rfl (hb hby d26_4) e589 ⟨rfl, N0, rfl⟩ (by decide) (by decide)

theorem ef_Variable_index_0 (m : MethodId) (x0 : Addr) : entryFrame m #[(.ref x0)] 1 = mkF m 0 #[.val (.ref x0)] [] := by first | (simp [entryFrame, mkF, argsToLocals, Value.category]; done) | rfl
def Q_Variable_index_0 (Z : State) (u1 : Addr) (i1 : Int32) (h0 : Heap) (n0 : Nat) (v : Option Value) (h : Heap) (L : List Loc) : Prop := v = some (.int i1) ∧ Fr n0 L ∧ h = h0
set_option maxRecDepth 65536 in
set_option maxHeartbeats 40000000 in
theorem rm_Variable_index_0 (l : Launch) (Z : State) (a0 : Array Value) (hw : ∀ d ∈ tables_1, d.before a0 Z = true) (ws : List Jvm.Cond) (u1 : Addr) (i1 : Int32) (h0 : Heap) (n0 : Nat) (Z0 : n0 ≤ h0.size) (F_index_u1 : Fld Z h0 u1 xs9 "index" "I" (.int i1)) :
    MetFree l xm17 (head1 (Jvm.Cond.code xm17 prog_117_method_5_code 1 (some .int) :: ws) xr15) (fun a U => a = #[(.ref u1)] ∧ Z.Warmed39 U.vm ∧ U.heap = h0) (fun _ _ _ _ _ => True) (fun _ U o U' => ∃ v L, o = .returned v ∧ Q_Variable_index_0 Z u1 i1 h0 n0 v U'.heap L ∧ FrameEnd U o U' L xr15.cells xr15.slots) := by
  refine MetFree.of_bodySF (plainFor_of_name pn_6) hisR ?_
  intro p e s m args below meth c s₁ Bd hml0 hP hK
  obtain ⟨rfl, hZ, hh⟩ := hP
  have hx := Bd.exec
  have hby := Bd.bytes
  have hlk : meth.locks = false := BodyLoose.notSynchronized Bd
  have hml : c.maxLocals = 1 := hml0
  have hown : s.vm.findClass xs9 = some m.cls := findClass_of_methodNamed Bd.named
  have hnm := (name_of_methodNamed Bd.named Bd.method).1
  have X0 : Stand p l e xr15 s m #[(.ref u1)] below meth c s₁ [] 0 0 := Stand.of_body Bd
  have e0 : s₁.heap = h0 := by rw [← hh, Bd.state]; rfl
  have N0 := Fr.nil n0
  show Go p e below s (Q_Variable_index_0 Z u1 i1 h0 n0) xr15.cells xr15.slots s₁ (entryFrame m #[(.ref u1)] 1)
  refine Go.cast (ef_Variable_index_0 m u1) ?_
  show Go p e below s _ _ _ s₁ (mkF m 0 #[.val (.ref u1)] [])
  refine Go.step (fun _ k => XS.aloadN X0.here hx rfl (hb hby d11_0) rfl rfl k) ?_
  show Go p e below s _ _ _ s₁ (mkF m 1 #[.val (.ref u1)] [(.ref u1)])
  obtain ⟨T598, X598, e598, st598⟩ := getF X0 hx hZ hown (host := "") (Or.inl (tw85 hw)) Via.refl e0 F_index_u1 (g := (mkF m 1 #[.val (.ref u1)] [(.ref u1)])) rfl rfl (hb hby d11_1)
  refine Go.step (fun _ k => st598 _ k) ?_
  show Go p e below s _ _ _ T598 (mkF m 4 #[.val (.ref u1)] [(.int i1)])
  exact Go.retI X598 hx hlk Bd.returns (hb hby d11_4) e598 ⟨rfl, N0, rfl⟩ (by decide) (by decide)

theorem ef_Assignment_value_0 (m : MethodId) (x0 : Addr) : entryFrame m #[(.ref x0)] 1 = mkF m 0 #[.val (.ref x0)] [] := by first | (simp [entryFrame, mkF, argsToLocals, Value.category]; done) | rfl
def Q_Assignment_value_0 (Z : State) (b385 : Addr) (t1 : Addr) (h0 : Heap) (n0 : Nat) (v : Option Value) (h : Heap) (L : List Loc) : Prop := v = some (.ref t1) ∧ Fr n0 L ∧ h = h0
set_option maxRecDepth 65536 in
set_option maxHeartbeats 40000000 in
theorem rm_Assignment_value_0 (l : Launch) (Z : State) (a0 : Array Value) (hw : ∀ d ∈ tables_1, d.before a0 Z = true) (ws : List Jvm.Cond) (b385 : Addr) (t1 : Addr) (h0 : Heap) (n0 : Nat) (Z0 : n0 ≤ h0.size) (F_value_b385 : Fld Z h0 b385 xs7 "value" xs12 (.ref t1)) :
    MetFree l xm25 (head1 (Jvm.Cond.code xm25 prog_67_method_3_code 1 (some (.object xs13)) :: ws) xr15) (fun a U => a = #[(.ref b385)] ∧ Z.Warmed39 U.vm ∧ U.heap = h0) (fun _ _ _ _ _ => True) (fun _ U o U' => ∃ v L, o = .returned v ∧ Q_Assignment_value_0 Z b385 t1 h0 n0 v U'.heap L ∧ FrameEnd U o U' L xr15.cells xr15.slots) := by
  refine MetFree.of_bodySF (plainFor_of_name pn_13) hisR ?_
  intro p e s m args below meth c s₁ Bd hml0 hP hK
  obtain ⟨rfl, hZ, hh⟩ := hP
  have hx := Bd.exec
  have hby := Bd.bytes
  have hlk : meth.locks = false := BodyLoose.notSynchronized Bd
  have hml : c.maxLocals = 1 := hml0
  have hown : s.vm.findClass xs7 = some m.cls := findClass_of_methodNamed Bd.named
  have hnm := (name_of_methodNamed Bd.named Bd.method).1
  have X0 : Stand p l e xr15 s m #[(.ref b385)] below meth c s₁ [] 0 0 := Stand.of_body Bd
  have e0 : s₁.heap = h0 := by rw [← hh, Bd.state]; rfl
  have N0 := Fr.nil n0
  show Go p e below s (Q_Assignment_value_0 Z b385 t1 h0 n0) xr15.cells xr15.slots s₁ (entryFrame m #[(.ref b385)] 1)
  refine Go.cast (ef_Assignment_value_0 m b385) ?_
  show Go p e below s _ _ _ s₁ (mkF m 0 #[.val (.ref b385)] [])
  refine Go.step (fun _ k => XS.aloadN X0.here hx rfl (hb hby d27_0) rfl rfl k) ?_
  show Go p e below s _ _ _ s₁ (mkF m 1 #[.val (.ref b385)] [(.ref b385)])
  obtain ⟨T607, X607, e607, st607⟩ := getF X0 hx hZ hown (host := "") (Or.inl (tw182 hw)) Via.refl e0 F_value_b385 (g := (mkF m 1 #[.val (.ref b385)] [(.ref b385)])) rfl rfl (hb hby d27_1)
  refine Go.step (fun _ k => st607 _ k) ?_
  show Go p e below s _ _ _ T607 (mkF m 4 #[.val (.ref b385)] [(.ref t1)])
  exact Go.retA X607 hx hlk Bd.returns rfl rfl (hb hby d27_4) e607 ⟨rfl, N0, rfl⟩ (by decide) (by decide)

theorem ef_ArrayList_Itr_hasNext_2 (m : MethodId) (x0 : Addr) : entryFrame m #[(.ref x0)] 1 = mkF m 0 #[.val (.ref x0)] [] := by first | (simp [entryFrame, mkF, argsToLocals, Value.category]; done) | rfl
def Q_ArrayList_Itr_hasNext_2 (Z : State) (b496_538 : Addr) (b228 : Addr) (h0 : Heap) (n0 : Nat) (v : Option Value) (h : Heap) (L : List Loc) : Prop := v = some (.int (0 : Int32)) ∧ Fr n0 L ∧ h = h0
set_option maxRecDepth 65536 in
set_option maxHeartbeats 40000000 in
theorem rm_ArrayList_Itr_hasNext_2 (l : Launch) (Z : State) (a0 : Array Value) (hw : ∀ d ∈ tables_1, d.before a0 Z = true) (ws : List Jvm.Cond) (b496_538 : Addr) (b228 : Addr) (h0 : Heap) (n0 : Nat) (Z0 : n0 ≤ h0.size) (F_cursor_b496_538 : Fld Z h0 b496_538 xs24 "cursor" "I" (.int (1 : Int32))) (F_this_0_b496_538 : Fld Z h0 b496_538 xs24 "this$0" xs29 (.ref b228)) (F_size_b228 : Fld Z h0 b228 xs37 "size" "I" (.int (1 : Int32))) :
    MetFree l xm5 (head1 (Jvm.Cond.code xm5 jdk_49_method_2_code 1 (some .boolean) :: ws) xr15) (fun a U => a = #[(.ref b496_538)] ∧ Z.Warmed39 U.vm ∧ U.heap = h0) (fun _ _ _ _ _ => True) (fun _ U o U' => ∃ v L, o = .returned v ∧ Q_ArrayList_Itr_hasNext_2 Z b496_538 b228 h0 n0 v U'.heap L ∧ FrameEnd U o U' L xr15.cells xr15.slots) := by
  refine MetFree.of_bodySF (plainFor_of_name pn_12) hisR ?_
  intro p e s m args below meth c s₁ Bd hml0 hP hK
  obtain ⟨rfl, hZ, hh⟩ := hP
  have hx := Bd.exec
  have hby := Bd.bytes
  have hlk : meth.locks = false := BodyLoose.notSynchronized Bd
  have hml : c.maxLocals = 1 := hml0
  have hown : s.vm.findClass xs24 = some m.cls := findClass_of_methodNamed Bd.named
  have hnm := (name_of_methodNamed Bd.named Bd.method).1
  have X0 : Stand p l e xr15 s m #[(.ref b496_538)] below meth c s₁ [] 0 0 := Stand.of_body Bd
  have e0 : s₁.heap = h0 := by rw [← hh, Bd.state]; rfl
  have N0 := Fr.nil n0
  show Go p e below s (Q_ArrayList_Itr_hasNext_2 Z b496_538 b228 h0 n0) xr15.cells xr15.slots s₁ (entryFrame m #[(.ref b496_538)] 1)
  refine Go.cast (ef_ArrayList_Itr_hasNext_2 m b496_538) ?_
  show Go p e below s _ _ _ s₁ (mkF m 0 #[.val (.ref b496_538)] [])
  refine Go.step (fun _ k => XS.aloadN X0.here hx rfl (hb hby d17_0) rfl rfl k) ?_
  show Go p e below s _ _ _ s₁ (mkF m 1 #[.val (.ref b496_538)] [(.ref b496_538)])
  obtain ⟨T620, X620, e620, st620⟩ := getF X0 hx hZ hown (host := "") (Or.inl (tw155 hw)) Via.refl e0 F_cursor_b496_538 (g := (mkF m 1 #[.val (.ref b496_538)] [(.ref b496_538)])) rfl rfl (hb hby d17_1)
  refine Go.step (fun _ k => st620 _ (XS.aloadN X620.here hx rfl (hb hby d17_4) rfl rfl k)) ?_
  show Go p e below s _ _ _ T620 (mkF m 5 #[.val (.ref b496_538)] [(.ref b496_538), (.int (1 : Int32))])
  obtain ⟨T621, X621, e621, st621⟩ := getF X620 hx hZ hown (host := "") (Or.inl (tw139 hw)) Via.refl e620 F_this_0_b496_538 (g := (mkF m 5 #[.val (.ref b496_538)] [(.ref b496_538), (.int (1 : Int32))])) rfl rfl (hb hby d17_5)
  refine Go.step (fun _ k => st621 _ k) ?_
  show Go p e below s _ _ _ T621 (mkF m 8 #[.val (.ref b496_538)] [(.ref b228), (.int (1 : Int32))])
  obtain ⟨T622, X622, e622, st622⟩ := getF X621 hx hZ hown (Or.inr (tw157 hw)) Via.refl e621 F_size_b228 (g := (mkF m 8 #[.val (.ref b496_538)] [(.ref b228), (.int (1 : Int32))])) rfl rfl (hb hby d17_8)
  refine Go.step (fun _ k => st622 _ (XS.icmpYes X622.here hx rfl (pc0 := 11) (pc' := 18) rfl (hb hby d17_11) rfl (teq (by decide)).1 (by decide) (by decide) (XS.iconst X622.here hx rfl (hb hby d17_18) k))) ?_
  show Go p e below s _ _ _ T622 (mkF m 19 #[.val (.ref b496_538)] [(.int (0 : Int32))])
  exact Go.retN X622 hx hlk (t := .boolean) Bd.returns (by simp) (hb hby d17_19) e622 ⟨rfl, N0, rfl⟩ (by decide) (by decide)

theorem ef_Substitution_new_1 (m : MethodId) (x0 : Addr) (x1 : Int32) (x2 : Addr) : entryFrame m #[(.ref x0), (.int x1), (.ref x2)] 5 = mkF m 0 #[.val (.ref x0), .val (.int x1), .val (.ref x2), .unset, .unset] [] := by first | (simp [entryFrame, mkF, argsToLocals, Value.category]; done) | rfl
def Q_Substitution_new_1 (Z : State) (b484 : Addr) (b228 : Addr) (b425_439_444_467_482 : Addr) (k425_439_444_467_482 : ClassId) (b385 : Addr) (u1 : Addr) (i1 : Int32) (t1 : Addr) (h0 : Heap) (n0 : Nat) (v : Option Value) (h : Heap) (L : List Loc) : Prop := ∃ (b487 : Addr) (k487 : ClassId), v = none ∧ Fr n0 L ∧ Keep h0 h [b484] ∧ Fld Z h b484 xs4 "replacements" xs11 (.ref b487) ∧ h0.size ≤ b487 ∧ Arv Z h b487 k487 (.object xs13) (3 : Int32) [(own_at i1 (0 : Int32) (.ref t1) .null), (own_at i1 (1 : Int32) (.ref t1) .null), (own_at i1 (2 : Int32) (.ref t1) .null)] .null ∧ Ovr Z k487 xs13
set_option maxRecDepth 65536 in
set_option maxHeartbeats 40000000 in
theorem rm_Substitution_new_1 (l : Launch) (Z : State) (a0 : Array Value) (hw : ∀ d ∈ tables_1, d.before a0 Z = true) (ws : List Jvm.Cond) (b484 : Addr) (b228 : Addr) (b425_439_444_467_482 : Addr) (k425_439_444_467_482 : ClassId) (b385 : Addr) (u1 : Addr) (i1 : Int32) (t1 : Addr) (h0 : Heap) (n0 : Nat) (Z0 : n0 ≤ h0.size) (E_b484 : Exa Z h0 b484 xs4) (F_replacements_b484 : Fld Z h0 b484 xs4 "replacements" xs11 .null) (g_b484 : n0 ≤ b484) (E_b228 : Exa Z h0 b228 xs37) (F_modCount_b228 : Fld Z h0 b228 xs26 "modCount" "I" (.int (1 : Int32))) (ne_b228_b484 : b228 ≠ b484) (F_size_b228 : Fld Z h0 b228 xs37 "size" "I" (.int (1 : Int32))) (F_elementData_b228 : Fld Z h0 b228 xs37 "elementData" xs35 (.ref b425_439_444_467_482)) (V_b425_439_444_467_482 : Arv Z h0 b425_439_444_467_482 k425_439_444_467_482 (.object xs41) (10 : Int32) [(.ref b385), .null, .null, .null, .null, .null, .null, .null, .null, .null] .null) (ne_b425_439_444_467_482_b484 : b425_439_444_467_482 ≠ b484) (E_b385 : Exa Z h0 b385 xs7) (F_target_b385 : Fld Z h0 b385 xs7 "target" xs8 (.ref u1)) (ne_b385_b484 : b385 ≠ b484) (E_u1 : Exa Z h0 u1 xs9) (F_index_u1 : Fld Z h0 u1 xs9 "index" "I" (.int i1)) (ne_u1_b484 : u1 ≠ b484) (F_value_b385 : Fld Z h0 b385 xs7 "value" xs12 (.ref t1)) (hi1 : i1 = (0 : Int32) ∨ i1 = (1 : Int32) ∨ i1 = (2 : Int32)) (E_t1 : Exa Z h0 t1 xs9) :
    MetFree l xm18 (head1 (Jvm.Cond.code xm18 prog_108_method_1_code 5 none :: ws) xr13) (fun a U => a = #[(.ref b484), (.int (3 : Int32)), (.ref b228)] ∧ Z.Warmed39 U.vm ∧ U.heap = h0) (fun _ _ _ _ _ => True) (fun _ U o U' => ∃ v L, o = .returned v ∧ Q_Substitution_new_1 Z b484 b228 b425_439_444_467_482 k425_439_444_467_482 b385 u1 i1 t1 h0 n0 v U'.heap L ∧ FrameEnd U o U' L xr13.cells xr13.slots) := by
  refine MetFree.of_bodySF (plainFor_of_name pn_10) hisR ?_
  intro p e s m args below meth c s₁ Bd hml0 hP hK
  obtain ⟨rfl, hZ, hh⟩ := hP
  have hx := Bd.exec
  have hby := Bd.bytes
  have hlk : meth.locks = false := BodyLoose.notSynchronized Bd
  have hml : c.maxLocals = 5 := hml0
  have hown : s.vm.findClass xs4 = some m.cls := findClass_of_methodNamed Bd.named
  have hnm := (name_of_methodNamed Bd.named Bd.method).1
  have X0 : Stand p l e xr13 s m #[(.ref b484), (.int (3 : Int32)), (.ref b228)] below meth c s₁ [] 0 0 := Stand.of_body Bd
  have e0 : s₁.heap = h0 := by rw [← hh, Bd.state]; rfl
  have N0 := Fr.nil n0
  show Go p e below s (Q_Substitution_new_1 Z b484 b228 b425_439_444_467_482 k425_439_444_467_482 b385 u1 i1 t1 h0 n0) xr13.cells xr13.slots s₁ (entryFrame m #[(.ref b484), (.int (3 : Int32)), (.ref b228)] 5)
  refine Go.cast (ef_Substitution_new_1 m b484 (3 : Int32) b228) ?_
  show Go p e below s _ _ _ s₁ (mkF m 0 #[.val (.ref b484), .val (.int (3 : Int32)), .val (.ref b228), .unset, .unset] [])
  refine Go.step (fun _ k => XS.aloadN X0.here hx rfl (hb hby d14_0) rfl rfl k) ?_
  show Go p e below s _ _ _ s₁ (mkF m 1 #[.val (.ref b484), .val (.int (3 : Int32)), .val (.ref b228), .unset, .unset] [(.ref b484)])
  obtain ⟨T486, X486, e486, st486⟩ := initO X0 hx hZ hown (tw120 hw) (tw33 hw) (tw34 hw) e0 (g := (mkF m 1 #[.val (.ref b484), .val (.int (3 : Int32)), .val (.ref b228), .unset, .unset] [(.ref b484)])) rfl (by rw [hml]; rfl) rfl (hb hby d14_1) (by decide) (W := 0) (by show 2 * 0 + _ ≤ _; exact Nat.le_of_eq rfl) (by decide)
  refine Go.step (fun _ k => st486 _ (XS.aloadN X486.here hx rfl (hb hby d14_4) rfl rfl (XS.iloadN X486.here hx rfl (hb hby d14_5) rfl k))) ?_
  show Go p e below s _ _ _ T486 (mkF m 6 #[.val (.ref b484), .val (.int (3 : Int32)), .val (.ref b228), .unset, .unset] [(.int (3 : Int32)), (.ref b484)])
  obtain ⟨T487, h487, k487, X487, e487, E487, A487, O487, st487⟩ := newR X486 hx hZ hown (tw121 hw) (tw122 hw) e486 (g := (mkF m 6 #[.val (.ref b484), .val (.int (3 : Int32)), .val (.ref b228), .unset, .unset] [(.int (3 : Int32)), (.ref b484)])) rfl (hb hby d14_6) rfl (by decide) (cap := 3) (by decide) (by decide) (by decide) (by decide)
  obtain ⟨b487, g487⟩ : ∃ z, z = h0.size := ⟨_, rfl⟩
  rw [← g487] at A487 st487
  have f488 : Arv Z h487 b487 k487 (.object xs13) (3 : Int32) [.null, .null, .null] .null := (Arv.new A487 (by decide)).pad (pad_rep [] .null 3)
  refine Go.step (fun _ k => st487 _ k) ?_
  show Go p e below s _ _ _ T487 (mkF m 9 #[.val (.ref b484), .val (.int (3 : Int32)), .val (.ref b228), .unset, .unset] [(.ref b487), (.ref b484)])
  have f489 := (F_replacements_b484.ext E487)
  have f490 := (E_b484.ext E487)
  obtain ⟨T491, h491, X491, e491, W491, st491⟩ := putF X487 hx hZ hown (host := "") (Or.inl (tw123 hw)) Via.refl e487 f489 f490 (Or.inr ⟨(tw124 hw), rfl, hnm⟩) (tw115 hw) (ty := (.array (.object xs13))) (by decide) rfl rfl (g := (mkF m 9 #[.val (.ref b484), .val (.int (3 : Int32)), .val (.ref b228), .unset, .unset] [(.ref b487), (.ref b484)])) rfl rfl (hb hby d14_9)
  have f494 := f489.same W491
  have N495 := Fr.snoc X491 N0 g_b484
  refine Go.step (fun _ k => st491 _ (XS.aloadN X491.here hx rfl (hb hby d14_12) rfl rfl k)) ?_
  show Go p e below s _ _ _ T491 (mkF m 13 #[.val (.ref b484), .val (.int (3 : Int32)), .val (.ref b228), .unset, .unset] [(.ref b228)])
  have f534 := (Nat.le_trans (Nat.le_trans Z0 E487.1) (Keep.of_wr W491).1)
  have f537 := ((F_modCount_b228.ext E487).other W491 (Or.inl ne_b228_b484))
  have f539 := ((E_b228.ext E487).wr W491)
  obtain ⟨cq538, kq538, q538a, q538b, q538c⟩ := isOf hZ e491 f539
  obtain ⟨_, _, ⟨T538, L538, k538, n538⟩, -, X538, ⟨Lc538, hQ538, l538, y538, z538⟩, st538⟩ := X491.interfaceBack hx (xi := xm2) (y := xm4) hown (mvT hZ (tw125 hw)) (mvT hZ (tw36 hw)) (mvT hZ (tw37 hw)) (mvT hZ (tw126 hw)) (mvT hZ (tw127 hw)) (mvT hZ (tw128 hw)) (mvT hZ (tw129 hw)) (mvT hZ (tw130 hw)) (by decide) (backOf (W := 0) (rm_ArrayList_iterator_1 l Z a0 hw [] b228 h491 n0 f534 f537) hZ (tw131 hw) (tw92 hw) (by decide) (by decide)) q538a q538b q538c (g := (mkF m 13 #[.val (.ref b484), .val (.int (3 : Int32)), .val (.ref b228), .unset, .unset] [(.ref b228)])) rfl (by rw [hml]; rfl) (Steps.refl _) (argsL := []) (rest := []) (lenOf pd_3 rfl) rfl (by show 2 * 0 + _ ≤ _; exact Nat.le_of_eq rfl) (hb hby d14_13) (fun _ _ => ⟨rfl, e491, (by decide : 1 + 1 ≤ _), (by decide : 3 + 4 ≤ _)⟩)
  dsimp only [Pt.U, Pt.locs, Pt.cells, Pt.slots] at X538 l538 y538 z538 st538 hQ538
  subst l538 y538 z538
  obtain ⟨b496_538, rfl, N538q, K538, P538_0, P538_1, P538_2, P538_3, P538_4, P538_5⟩ := hQ538
  have N540 := Fr.app N495 N538q
  refine Go.step (fun _ k => st538.trans (XS.astoreN X538.here hx rfl (hb hby d14_18) rfl rfl (l' := #[.val (.ref b484), .val (.int (3 : Int32)), .val (.ref b228), .val (.ref b496_538), .unset]) rfl (XS.aloadN X538.here hx rfl (hb hby d14_19) rfl rfl k))) ?_
  show Go p e below s _ _ _ T538 (mkF m 20 #[.val (.ref b484), .val (.int (3 : Int32)), .val (.ref b228), .val (.ref b496_538), .unset] [(.ref b496_538)])
  have f544 := (Nat.le_trans f534 K538.1)
  have f545 := (((F_size_b228.ext E487).other W491 (Or.inl ne_b228_b484)).keep K538 nin0)
  obtain ⟨cq546, kq546, q546a, q546b, q546c⟩ := isOf hZ rfl P538_1
  obtain ⟨_, _, ⟨T546, L546, k546, n546⟩, -, X546, ⟨Lc546, hQ546, l546, y546, z546⟩, st546⟩ := X538.interfaceBack hx (xi := xm3) (y := xm5) hown (mvT hZ (tw148 hw)) (mvT hZ (tw71 hw)) (mvT hZ (tw72 hw)) (mvT hZ (tw149 hw)) (mvT hZ (tw150 hw)) (mvT hZ (tw151 hw)) (mvT hZ (tw152 hw)) (mvT hZ (tw153 hw)) (by decide) (backOf (W := 0) (rm_ArrayList_Itr_hasNext_1 l Z a0 hw [] b496_538 b228 T538.heap n0 f544 P538_5 P538_2 f545) hZ (tw154 hw) (tw134 hw) (by decide) (by decide)) q546a q546b q546c (g := (mkF m 20 #[.val (.ref b484), .val (.int (3 : Int32)), .val (.ref b228), .val (.ref b496_538), .unset] [(.ref b496_538)])) rfl (by rw [hml]; rfl) (Steps.refl _) (argsL := []) (rest := []) (lenOf pd_4 rfl) rfl (by show 2 * 0 + _ ≤ _; exact Nat.le_of_eq rfl) (hb hby d14_20) (fun _ _ => ⟨rfl, rfl, (by decide : 2 + 0 ≤ _), (by decide : 7 + 0 ≤ _)⟩)
  dsimp only [Pt.U, Pt.locs, Pt.cells, Pt.slots] at X546 l546 y546 z546 st546 hQ546
  subst l546 y546 z546
  obtain ⟨rfl, N546q, eq546⟩ := hQ546
  have N547 := Fr.app N540 N546q
  refine Go.step (fun _ k => st546.trans (XS.ifNo X546.here hx rfl (hb hby d14_25) rfl ((if0 _ _).trans (feq (by decide)).1) (XS.aloadN X546.here hx rfl (hb hby d14_28) rfl rfl k))) ?_
  show Go p e below s _ _ _ T546 (mkF m 29 #[.val (.ref b484), .val (.int (3 : Int32)), .val (.ref b228), .val (.ref b496_538), .unset] [(.ref b496_538)])
  have g560 := Nat.le_trans f534 P538_0
  have f569 := ((V_b425_439_444_467_482.ext E487).other W491 ne_b425_439_444_467_482_b484)
  have ne570 : b425_439_444_467_482 ≠ b496_538 := Nat.ne_of_lt (Nat.lt_of_lt_of_le f569.lt P538_0)
  have f578 := (f537.keep K538 nin0)
  have f579 := (((F_elementData_b228.ext E487).other W491 (Or.inl ne_b228_b484)).keep K538 nin0)
  have f580 := (((V_b425_439_444_467_482.ext E487).other W491 ne_b425_439_444_467_482_b484).keep K538 nin0)
  obtain ⟨cq581, kq581, q581a, q581b, q581c⟩ := isOf hZ eq546 P538_1
  obtain ⟨_, _, ⟨T581, L581, k581, n581⟩, -, X581, ⟨Lc581, hQ581, l581, y581, z581⟩, st581⟩ := X546.interfaceBack hx (xi := xm26) (y := xm23) hown (mvT hZ (tw216 hw)) (mvT hZ (tw217 hw)) (mvT hZ (tw218 hw)) (mvT hZ (tw219 hw)) (mvT hZ (tw220 hw)) (mvT hZ (tw221 hw)) (mvT hZ (tw222 hw)) (mvT hZ (tw153 hw)) (by decide) (backOf (W := 0) (rm_ArrayList_Itr_next_0 l Z a0 hw [] b496_538 b228 b425_439_444_467_482 k425_439_444_467_482 b385 T538.heap n0 f544 P538_1 P538_2 f578 P538_4 P538_5 f545 f579 f580 g560 P538_3 ne570) hZ (tw223 hw) (tw134 hw) (by decide) (by decide)) q581a q581b q581c (g := (mkF m 29 #[.val (.ref b484), .val (.int (3 : Int32)), .val (.ref b228), .val (.ref b496_538), .unset] [(.ref b496_538)])) rfl (by rw [hml]; rfl) (Steps.refl _) (argsL := []) (rest := []) (lenOf pd_18 rfl) rfl (by show 2 * 0 + _ ≤ _; exact Nat.le_of_eq rfl) (hb hby d14_29) (fun _ _ => ⟨rfl, eq546, (by decide : 2 + 0 ≤ _), (by decide : 7 + 0 ≤ _)⟩)
  dsimp only [Pt.U, Pt.locs, Pt.cells, Pt.slots] at X581 l581 y581 z581 st581 hQ581
  subst l581 y581 z581
  obtain ⟨rfl, N581q, K581, P581_0, P581_1, P581_2, P581_3⟩ := hQ581
  have N582 := Fr.app N547 N581q
  refine Go.step (fun _ k => st581.trans k) ?_
  show Go p e below s _ _ _ T581 (mkF m 34 #[.val (.ref b484), .val (.int (3 : Int32)), .val (.ref b228), .val (.ref b496_538), .unset] [(.ref b385)])
  have f583 := ((((E_b385.ext E487).wr W491).keep K538).keep K581)
  obtain ⟨T584, X584, e584, st584⟩ := castY X581 hx hZ hown (tw230 hw) rfl (Ins.self f583) (g := (mkF m 34 #[.val (.ref b484), .val (.int (3 : Int32)), .val (.ref b228), .val (.ref b496_538), .unset] [(.ref b385)])) rfl rfl (hb hby d14_34)
  refine Go.step (fun _ k => st584 _ (XS.astore X584.here hx rfl (hb hby d14_37) rfl rfl (l' := #[.val (.ref b484), .val (.int (3 : Int32)), .val (.ref b228), .val (.ref b496_538), .val (.ref b385)]) rfl (XS.aloadN X584.here hx rfl (hb hby d14_39) rfl rfl k))) ?_
  show Go p e below s _ _ _ T584 (mkF m 40 #[.val (.ref b484), .val (.int (3 : Int32)), .val (.ref b228), .val (.ref b496_538), .val (.ref b385)] [(.ref b484)])
  have f585 := (f490.wr W491)
  have ne586 : b484 ≠ b496_538 := Nat.ne_of_lt (Nat.lt_of_lt_of_le f585.lt P538_0)
  have f587 := ((f494.keep K538 nin0).keep K581 (ninS ne586 nin0))
  obtain ⟨T588, X588, e588, st588⟩ := getF X584 hx hZ hown (host := "") (Or.inl (tw123 hw)) Via.refl e584 f587 (g := (mkF m 40 #[.val (.ref b484), .val (.int (3 : Int32)), .val (.ref b228), .val (.ref b496_538), .val (.ref b385)] [(.ref b484)])) rfl rfl (hb hby d14_40)
  refine Go.step (fun _ k => st588 _ (XS.aload X588.here hx rfl (hb hby d14_43) rfl rfl k)) ?_
  show Go p e below s _ _ _ T588 (mkF m 45 #[.val (.ref b484), .val (.int (3 : Int32)), .val (.ref b228), .val (.ref b496_538), .val (.ref b385)] [(.ref b385), (.ref b487)])
  have f590 := (Nat.le_trans f544 K581.1)
  have f593 := ((E_b385.ext E487).wr W491)
  have ne594 : b385 ≠ b496_538 := Nat.ne_of_lt (Nat.lt_of_lt_of_le f593.lt P538_0)
  have f595 := ((((F_target_b385.ext E487).other W491 (Or.inl ne_b385_b484)).keep K538 nin0).keep K581 (ninS ne594 nin0))
  obtain ⟨cq596, kq596, q596a, q596b, q596c⟩ := isOf hZ e588 f583
  obtain ⟨_, _, ⟨T596, L596, k596, n596⟩, -, X596, ⟨Lc596, hQ596, l596, y596, z596⟩, st596⟩ := X588.virtualBack hx (y := xm24) (z := xm24) hown (mvT hZ (tw232 hw)) (mvT hZ (tw233 hw)) (notFace_of_selects (args := #[]) (mvT hZ (tw235 hw))) (mvT hZ (tw235 hw)) (mvT hZ (tw234 hw)) (by decide) (backOf (W := 1) (rm_Assignment_target_0 l Z a0 hw [] b385 u1 T581.heap n0 f590 f595) hZ (tw236 hw) (tw175 hw) (by decide) (by decide)) q596a q596c (g := (mkF m 45 #[.val (.ref b484), .val (.int (3 : Int32)), .val (.ref b228), .val (.ref b496_538), .val (.ref b385)] [(.ref b385), (.ref b487)])) rfl (by rw [hml]; rfl) (Steps.refl _) (argsL := []) (rest := [(.ref b487)]) (lenOf pd_19 rfl) rfl (by show 2 * 0 + _ ≤ _; exact Nat.le_of_eq rfl) (hb hby d14_45) (fun _ _ => ⟨rfl, e588, (by decide : 2 + 0 ≤ _), (by decide : 7 + 0 ≤ _)⟩)
  dsimp only [Pt.U, Pt.locs, Pt.cells, Pt.slots] at X596 l596 y596 z596 st596 hQ596
  subst l596 y596 z596
  obtain ⟨rfl, N596q, eq596⟩ := hQ596
  have N597 := Fr.app N582 N596q
  refine Go.step (fun _ k => st596.trans k) ?_
  show Go p e below s _ _ _ T596 (mkF m 48 #[.val (.ref b484), .val (.int (3 : Int32)), .val (.ref b228), .val (.ref b496_538), .val (.ref b385)] [(.ref u1), (.ref b487)])
  have f601 := ((E_u1.ext E487).wr W491)
  have ne602 : u1 ≠ b496_538 := Nat.ne_of_lt (Nat.lt_of_lt_of_le f601.lt P538_0)
  have f603 := ((((F_index_u1.ext E487).other W491 (Or.inl ne_u1_b484)).keep K538 nin0).keep K581 (ninS ne602 nin0))
  have f605 := ((((E_u1.ext E487).wr W491).keep K538).keep K581)
  obtain ⟨cq604, kq604, q604a, q604b, q604c⟩ := isOf hZ eq596 f605
  obtain ⟨_, _, ⟨T604, L604, k604, n604⟩, -, X604, ⟨Lc604, hQ604, l604, y604, z604⟩, st604⟩ := X596.virtualBack hx (y := xm17) (z := xm17) hown (mvT hZ (tw164 hw)) (mvT hZ (tw165 hw)) (notFace_of_selects (args := #[]) (mvT hZ (tw167 hw))) (mvT hZ (tw167 hw)) (mvT hZ (tw166 hw)) (by decide) (backOf (W := 1) (rm_Variable_index_0 l Z a0 hw [] u1 i1 T581.heap n0 f590 f603) hZ (tw168 hw) (tw4 hw) (by decide) (by decide)) q604a q604c (g := (mkF m 48 #[.val (.ref b484), .val (.int (3 : Int32)), .val (.ref b228), .val (.ref b496_538), .val (.ref b385)] [(.ref u1), (.ref b487)])) rfl (by rw [hml]; rfl) (Steps.refl _) (argsL := []) (rest := [(.ref b487)]) (lenOf pd_1 rfl) rfl (by show 2 * 0 + _ ≤ _; exact Nat.le_of_eq rfl) (hb hby d14_48) (fun _ _ => ⟨rfl, eq596, (by decide : 2 + 0 ≤ _), (by decide : 7 + 0 ≤ _)⟩)
  dsimp only [Pt.U, Pt.locs, Pt.cells, Pt.slots] at X604 l604 y604 z604 st604 hQ604
  subst l604 y604 z604
  obtain ⟨rfl, N604q, eq604⟩ := hQ604
  have N606 := Fr.app N597 N604q
  refine Go.step (fun _ k => st604.trans (XS.aload X604.here hx rfl (hb hby d14_51) rfl rfl k)) ?_
  show Go p e below s _ _ _ T604 (mkF m 53 #[.val (.ref b484), .val (.int (3 : Int32)), .val (.ref b228), .val (.ref b496_538), .val (.ref b385)] [(.ref b385), (.int i1), (.ref b487)])
  have f608 := ((((F_value_b385.ext E487).other W491 (Or.inl ne_b385_b484)).keep K538 nin0).keep K581 (ninS ne594 nin0))
  obtain ⟨cq609, kq609, q609a, q609b, q609c⟩ := isOf hZ eq604 f583
  obtain ⟨_, _, ⟨T609, L609, k609, n609⟩, -, X609, ⟨Lc609, hQ609, l609, y609, z609⟩, st609⟩ := X604.virtualBack hx (y := xm25) (z := xm25) hown (mvT hZ (tw237 hw)) (mvT hZ (tw238 hw)) (notFace_of_selects (args := #[]) (mvT hZ (tw240 hw))) (mvT hZ (tw240 hw)) (mvT hZ (tw239 hw)) (by decide) (backOf (W := 2) (rm_Assignment_value_0 l Z a0 hw [] b385 t1 T581.heap n0 f590 f608) hZ (tw241 hw) (tw175 hw) (by decide) (by decide)) q609a q609c (g := (mkF m 53 #[.val (.ref b484), .val (.int (3 : Int32)), .val (.ref b228), .val (.ref b496_538), .val (.ref b385)] [(.ref b385), (.int i1), (.ref b487)])) rfl (by rw [hml]; rfl) (Steps.refl _) (argsL := []) (rest := [(.int i1), (.ref b487)]) (lenOf pd_20 rfl) rfl (by show 2 * 0 + _ ≤ _; exact Nat.le_of_eq rfl) (hb hby d14_53) (fun _ _ => ⟨rfl, eq604, (by decide : 2 + 0 ≤ _), (by decide : 7 + 0 ≤ _)⟩)
  dsimp only [Pt.U, Pt.locs, Pt.cells, Pt.slots] at X609 l609 y609 z609 st609 hQ609
  subst l609 y609 z609
  obtain ⟨rfl, N609q, eq609⟩ := hQ609
  have N610 := Fr.app N606 N609q
  refine Go.step (fun _ k => st609.trans k) ?_
  show Go p e below s _ _ _ T609 (mkF m 56 #[.val (.ref b484), .val (.int (3 : Int32)), .val (.ref b228), .val (.ref b496_538), .val (.ref b385)] [(.ref t1), (.int i1), (.ref b487)])
  have ne611 : b484 ≠ b487 := Nat.ne_of_lt (Nat.lt_of_lt_of_le E_b484.lt (Nat.le_of_eq g487.symm))
  have f612 := (f488.other W491 (Ne.symm ne611))
  have ne613 : b487 ≠ b496_538 := Nat.ne_of_lt (Nat.lt_of_lt_of_le f612.lt P538_0)
  have f614 := (((f488.other W491 (Ne.symm ne611)).keep K538 nin0).keep K581 (ninS ne613 nin0))
  obtain ⟨cl615, Ar615, qq615, Sz615, Ng615, Hs615, Ft615⟩ := id f614
  have in615 : ¬ (i1 < 0 ∨ cl615.slots.size ≤ (i1).toNatClampNeg) := inb_of Sz615 (own_in3 hi1)
  have f616 := ((((E_t1.ext E487).wr W491).keep K538).keep K581)
  obtain ⟨T615, h615, X615, e615, W615, st615⟩ := stR X609 hx hZ eq609 Ar615 (j := i1) in615 rfl (Sto.ofV Ar615 qq615 O487 (Ins.of_exa f616 (tw242 hw))) (g := (mkF m 56 #[.val (.ref b484), .val (.int (3 : Int32)), .val (.ref b228), .val (.ref b496_538), .val (.ref b385)] [(.ref t1), (.int i1), (.ref b487)])) rfl rfl (hb hby d14_56)
  have g617 := Nat.le_trans Z0 (Nat.le_of_eq g487.symm)
  have f618 : Arv Z h615 b487 k487 (.object xs13) (3 : Int32) [(own_at i1 (0 : Int32) (.ref t1) .null), (own_at i1 (1 : Int32) (.ref t1) .null), (own_at i1 (2 : Int32) (.ref t1) .null)] .null := by rw [← own_set3 hi1]; exact Arv.set Ar615 qq615 Sz615 Ng615 Hs615 Ft615 rfl W615 _ rfl (own_lt3 hi1)
  have N619 := Fr.snoc X615 N610 g617
  refine Go.step (fun _ k => st615 _ (XS.goto X615.here hx rfl (pc0 := 57) (pc' := 19) rfl (hb hby d14_57) (by decide) (by decide) (XS.aloadN X615.here hx rfl (hb hby d14_19) rfl rfl k))) ?_
  show Go p e below s _ _ _ T615 (mkF m 20 #[.val (.ref b484), .val (.int (3 : Int32)), .val (.ref b228), .val (.ref b496_538), .val (.ref b385)] [(.ref b496_538)])
  have f623 := (Nat.le_trans f590 (Keep.of_wr W615).1)
  have f624 := (P581_2.other W615 (Or.inl (Ne.symm ne613)))
  have f625 := (P581_0.other W615 (Or.inl (Ne.symm ne613)))
  have ne626 : b228 ≠ b496_538 := Nat.ne_of_lt (Nat.lt_of_lt_of_le f539.lt P538_0)
  have ne627 : b228 ≠ b487 := Nat.ne_of_lt (Nat.lt_of_lt_of_le E_b228.lt (Nat.le_of_eq g487.symm))
  have f628 := ((f545.keep K581 (ninS ne626 nin0)).other W615 (Or.inl ne627))
  have f630 := ((P538_1.keep K581).wr W615)
  obtain ⟨cq629, kq629, q629a, q629b, q629c⟩ := isOf hZ e615 f630
  obtain ⟨_, _, ⟨T629, L629, k629, n629⟩, -, X629, ⟨Lc629, hQ629, l629, y629, z629⟩, st629⟩ := X615.interfaceBack hx (xi := xm3) (y := xm5) hown (mvT hZ (tw148 hw)) (mvT hZ (tw71 hw)) (mvT hZ (tw72 hw)) (mvT hZ (tw149 hw)) (mvT hZ (tw150 hw)) (mvT hZ (tw151 hw)) (mvT hZ (tw152 hw)) (mvT hZ (tw153 hw)) (by decide) (backOf (W := 0) (rm_ArrayList_Itr_hasNext_2 l Z a0 hw [] b496_538 b228 h615 n0 f623 f624 f625 f628) hZ (tw154 hw) (tw134 hw) (by decide) (by decide)) q629a q629b q629c (g := (mkF m 20 #[.val (.ref b484), .val (.int (3 : Int32)), .val (.ref b228), .val (.ref b496_538), .val (.ref b385)] [(.ref b496_538)])) rfl (by rw [hml]; rfl) (Steps.refl _) (argsL := []) (rest := []) (lenOf pd_4 rfl) rfl (by show 2 * 0 + _ ≤ _; exact Nat.le_of_eq rfl) (hb hby d14_20) (fun _ _ => ⟨rfl, e615, (by decide : 2 + 0 ≤ _), (by decide : 7 + 0 ≤ _)⟩)
  dsimp only [Pt.U, Pt.locs, Pt.cells, Pt.slots] at X629 l629 y629 z629 st629 hQ629
  subst l629 y629 z629
  obtain ⟨rfl, N629q, eq629⟩ := hQ629
  have N631 := Fr.app N619 N629q
  refine Go.step (fun _ k => st629.trans (XS.ifYes X629.here hx rfl (pc0 := 25) (pc' := 60) rfl (hb hby d14_25) rfl ((if0 _ _).trans (teq (by decide)).1) (by decide) (by decide) k)) ?_
  show Go p e below s _ _ _ T629 (mkF m 60 #[.val (.ref b484), .val (.int (3 : Int32)), .val (.ref b228), .val (.ref b496_538), .val (.ref b385)] [])
  have f632 := (Nat.le_trans (Nat.le_trans (Nat.le_refl _) E487.1) (Keep.of_wr W491).1)
  have z633 := Nat.le_trans f632 P538_0
  have z634 := Nat.le_trans (Nat.le_refl _) (Nat.le_of_eq g487.symm)
  have f635 := ((((((Keep.refl h0 [b484]).ext E487).wr W491 (Or.inl (List.mem_of_getElem? (i := 0) rfl))).trans K538 all0).trans K581 (allS (Or.inr z633) all0)).wr W615 (Or.inr z634))
  have f636 := (f587.other W615 (Or.inl ne611))
  have f637 := (Nat.le_trans (Nat.le_trans (Nat.le_trans (Nat.le_trans (Nat.le_trans (Nat.le_refl _) E487.1) (Keep.of_wr W491).1) K538.1) K581.1) (Keep.of_wr W615).1)
  exact Go.retV X629 hx hlk Bd.returns (hb hby d14_60) eq629 ⟨b487, k487, rfl, N631, f635, f636, z634, f618, O487⟩ (by decide) (by decide)

theorem ef_ArrayList_add_3 (m : MethodId) (x0 : Addr) (x1 : Addr) (x2 : Addr) (x3 : Int32) : entryFrame m #[(.ref x0), (.ref x1), (.ref x2), (.int x3)] 4 = mkF m 0 #[.val (.ref x0), .val (.ref x1), .val (.ref x2), .val (.int x3)] [] := by first | (simp [entryFrame, mkF, argsToLocals, Value.category]; done) | rfl
def Q_ArrayList_add_3 (Z : State) (b228 : Addr) (b722 : Addr) (b425_439_444_467_720 : Addr) (k425_439_444_467_720 : ClassId) (b699 : Addr) (h0 : Heap) (n0 : Nat) (v : Option Value) (h : Heap) (L : List Loc) : Prop := v = none ∧ Fr n0 L ∧ Keep h0 h [b425_439_444_467_720, b228] ∧ Arv Z h b425_439_444_467_720 k425_439_444_467_720 (.object xs41) (10 : Int32) [(.ref b699), (.ref b722), .null, .null, .null, .null, .null, .null, .null, .null] .null ∧ Fld Z h b228 xs37 "size" "I" (.int (2 : Int32)) ∧ Fld Z h b228 xs26 "modCount" "I" (.int (2 : Int32)) ∧ Fld Z h b228 xs37 "elementData" xs35 (.ref b425_439_444_467_720)
set_option maxRecDepth 65536 in
set_option maxHeartbeats 40000000 in
theorem rm_ArrayList_add_3 (l : Launch) (Z : State) (a0 : Array Value) (hw : ∀ d ∈ tables_1, d.before a0 Z = true) (ws : List Jvm.Cond) (b228 : Addr) (b722 : Addr) (b425_439_444_467_720 : Addr) (k425_439_444_467_720 : ClassId) (b699 : Addr) (h0 : Heap) (n0 : Nat) (Z0 : n0 ≤ h0.size) (V_b425_439_444_467_720 : Arv Z h0 b425_439_444_467_720 k425_439_444_467_720 (.object xs41) (10 : Int32) [(.ref b699), .null, .null, .null, .null, .null, .null, .null, .null, .null] .null) (ovr_b425_439_444_467_720 : Ovr Z k425_439_444_467_720 xs41) (E_b722 : Exa Z h0 b722 xs7) (g_b425_439_444_467_720 : n0 ≤ b425_439_444_467_720) (E_b228 : Exa Z h0 b228 xs37) (F_size_b228 : Fld Z h0 b228 xs37 "size" "I" (.int (1 : Int32))) (ne_b228_b425_439_444_467_720 : b228 ≠ b425_439_444_467_720) (g_b228 : n0 ≤ b228) (F_modCount_b228 : Fld Z h0 b228 xs26 "modCount" "I" (.int (2 : Int32))) (F_elementData_b228 : Fld Z h0 b228 xs37 "elementData" xs35 (.ref b425_439_444_467_720)) :
    MetFree l xm27 (head1 (Jvm.Cond.code xm27 jdk_38_method_24_code 4 none :: ws) xr15) (fun a U => a = #[(.ref b228), (.ref b722), (.ref b425_439_444_467_720), (.int (1 : Int32))] ∧ Z.Warmed39 U.vm ∧ U.heap = h0) (fun _ _ _ _ _ => True) (fun _ U o U' => ∃ v L, o = .returned v ∧ Q_ArrayList_add_3 Z b228 b722 b425_439_444_467_720 k425_439_444_467_720 b699 h0 n0 v U'.heap L ∧ FrameEnd U o U' L xr15.cells xr15.slots) := by
  refine MetFree.of_bodySF (plainFor_of_name pn_9) hisR ?_
  intro p e s m args below meth c s₁ Bd hml0 hP hK
  obtain ⟨rfl, hZ, hh⟩ := hP
  have hx := Bd.exec
  have hby := Bd.bytes
  have hlk : meth.locks = false := BodyLoose.notSynchronized Bd
  have hml : c.maxLocals = 4 := hml0
  have hown : s.vm.findClass xs37 = some m.cls := findClass_of_methodNamed Bd.named
  have hnm := (name_of_methodNamed Bd.named Bd.method).1
  have X0 : Stand p l e xr15 s m #[(.ref b228), (.ref b722), (.ref b425_439_444_467_720), (.int (1 : Int32))] below meth c s₁ [] 0 0 := Stand.of_body Bd
  have e0 : s₁.heap = h0 := by rw [← hh, Bd.state]; rfl
  have N0 := Fr.nil n0
  show Go p e below s (Q_ArrayList_add_3 Z b228 b722 b425_439_444_467_720 k425_439_444_467_720 b699 h0 n0) xr15.cells xr15.slots s₁ (entryFrame m #[(.ref b228), (.ref b722), (.ref b425_439_444_467_720), (.int (1 : Int32))] 4)
  refine Go.cast (ef_ArrayList_add_3 m b228 b722 b425_439_444_467_720 (1 : Int32)) ?_
  show Go p e below s _ _ _ s₁ (mkF m 0 #[.val (.ref b228), .val (.ref b722), .val (.ref b425_439_444_467_720), .val (.int (1 : Int32))] [])
  refine Go.step (fun _ k => XS.iloadN X0.here hx rfl (hb hby d20_0) rfl (XS.aloadN X0.here hx rfl (hb hby d20_1) rfl rfl k)) ?_
  show Go p e below s _ _ _ s₁ (mkF m 2 #[.val (.ref b228), .val (.ref b722), .val (.ref b425_439_444_467_720), .val (.int (1 : Int32))] [(.ref b425_439_444_467_720), (.int (1 : Int32))])
  obtain ⟨cl743, Ar743, -, Sz743, Ng743, -, -⟩ := id V_b425_439_444_467_720
  have aln743 := X0.arraylength hx (by rw [e0]; exact Ar743.1) (State.isArrayOf_alike hZ.alike Ar743.2.1) (g := (mkF m 2 #[.val (.ref b228), .val (.ref b722), .val (.ref b425_439_444_467_720), .val (.int (1 : Int32))] [(.ref b425_439_444_467_720), (.int (1 : Int32))])) rfl rfl (hb hby d20_2)
  rw [len_of Sz743 Ng743] at aln743
  refine Go.step (fun _ k => aln743 _ (XS.icmpYes X0.here hx rfl (pc0 := 3) (pc' := 11) rfl (hb hby d20_3) rfl (feq (by decide)).2 (by decide) (by decide) (XS.aloadN X0.here hx rfl (hb hby d20_11) rfl rfl (XS.iloadN X0.here hx rfl (hb hby d20_12) rfl (XS.aloadN X0.here hx rfl (hb hby d20_13) rfl rfl k))))) ?_
  show Go p e below s _ _ _ s₁ (mkF m 14 #[.val (.ref b228), .val (.ref b722), .val (.ref b425_439_444_467_720), .val (.int (1 : Int32))] [(.ref b722), (.int (1 : Int32)), (.ref b425_439_444_467_720)])
  obtain ⟨cl744, Ar744, qq744, Sz744, Ng744, Hs744, Ft744⟩ := id V_b425_439_444_467_720
  have in744 : ¬ ((1 : Int32) < 0 ∨ cl744.slots.size ≤ ((1 : Int32)).toNatClampNeg) := (inb_of Sz744 ⟨by decide, by decide⟩)
  obtain ⟨T744, h744, X744, e744, W744, st744⟩ := stR X0 hx hZ e0 Ar744 (j := (1 : Int32)) in744 rfl (Sto.ofV Ar744 qq744 ovr_b425_439_444_467_720 (Ins.of_exa E_b722 (tw215 hw))) (g := (mkF m 14 #[.val (.ref b228), .val (.ref b722), .val (.ref b425_439_444_467_720), .val (.int (1 : Int32))] [(.ref b722), (.int (1 : Int32)), (.ref b425_439_444_467_720)])) rfl rfl (hb hby d20_14)
  have f746 : Arv Z h744 b425_439_444_467_720 k425_439_444_467_720 (.object xs41) (10 : Int32) [(.ref b699), (.ref b722), .null, .null, .null, .null, .null, .null, .null, .null] .null := Arv.set Ar744 qq744 Sz744 Ng744 Hs744 Ft744 rfl W744 1 rfl (Nat.le_of_ble_eq_true rfl)
  have N747 := Fr.snoc X744 N0 g_b425_439_444_467_720
  refine Go.step (fun _ k => st744 _ (XS.aloadN X744.here hx rfl (hb hby d20_15) rfl rfl (XS.iloadN X744.here hx rfl (hb hby d20_16) rfl (XS.iconst X744.here hx rfl (hb hby d20_17) (XS.iadd X744.here hx rfl (hb hby d20_18) rfl k))))) ?_
  show Go p e below s _ _ _ T744 (mkF m 19 #[.val (.ref b228), .val (.ref b722), .val (.ref b425_439_444_467_720), .val (.int (1 : Int32))] [(.int (2 : Int32)), (.ref b228)])
  have f749 := (F_size_b228.other W744 (Or.inl ne_b228_b425_439_444_467_720))
  have f750 := (E_b228.wr W744)
  obtain ⟨T751, h751, X751, e751, W751, st751⟩ := putF X744 hx hZ hown (host := "") (Or.inl (tw193 hw)) Via.refl e744 f749 f750 (Or.inl (tw158 hw)) (tw91 hw) (ty := .int) (by decide) rfl rfl (g := (mkF m 19 #[.val (.ref b228), .val (.ref b722), .val (.ref b425_439_444_467_720), .val (.int (1 : Int32))] [(.int (2 : Int32)), (.ref b228)])) rfl rfl (hb hby d20_19)
  have f752 := f749.same W751
  have N753 := Fr.snoc X751 N747 g_b228
  refine Go.step (fun _ k => st751 _ k) ?_
  show Go p e below s _ _ _ T751 (mkF m 22 #[.val (.ref b228), .val (.ref b722), .val (.ref b425_439_444_467_720), .val (.int (1 : Int32))] [])
  have f754 := (((Keep.refl h0 [b425_439_444_467_720, b228]).wr W744 (Or.inl (List.mem_of_getElem? (i := 0) rfl))).wr W751 (Or.inl (List.mem_of_getElem? (i := 1) rfl)))
  have f755 := (f746.other W751 (Ne.symm ne_b228_b425_439_444_467_720))
  have f756 := ((F_modCount_b228.other W744 (Or.inl ne_b228_b425_439_444_467_720)).other W751 (Or.inr (slot_ne (Or.inl (tw110 hw)) (Or.inl (tw158 hw)) (by decide) (t := .int) (t' := .int) (by decide) (by decide))))
  have f757 := ((F_elementData_b228.other W744 (Or.inl ne_b228_b425_439_444_467_720)).other W751 (Or.inr (slot_ne (Or.inl (tw113 hw)) (Or.inl (tw158 hw)) (by decide) (t := (.array (.object xs41))) (t' := .int) (by decide) (by decide))))
  have f758 := (Nat.le_trans (Nat.le_trans (Nat.le_refl _) (Keep.of_wr W744).1) (Keep.of_wr W751).1)
  exact Go.retV X751 hx hlk Bd.returns (hb hby d20_22) e751 ⟨rfl, N753, f754, f755, f752, f756, f757⟩ (by decide) (by decide)

theorem ef_ArrayList_add_2 (m : MethodId) (x0 : Addr) (x1 : Addr) : entryFrame m #[(.ref x0), (.ref x1)] 2 = mkF m 0 #[.val (.ref x0), .val (.ref x1)] [] := by first | (simp [entryFrame, mkF, argsToLocals, Value.category]; done) | rfl
def Q_ArrayList_add_2 (Z : State) (b228 : Addr) (b722 : Addr) (b425_439_444_467_720 : Addr) (k425_439_444_467_720 : ClassId) (b699 : Addr) (h0 : Heap) (n0 : Nat) (v : Option Value) (h : Heap) (L : List Loc) : Prop := v = some (.int (1 : Int32)) ∧ Fr n0 L ∧ Keep h0 h [b228, b425_439_444_467_720] ∧ Fld Z h b228 xs26 "modCount" "I" (.int (2 : Int32)) ∧ Fld Z h b228 xs37 "elementData" xs35 (.ref b425_439_444_467_720) ∧ Fld Z h b228 xs37 "size" "I" (.int (2 : Int32)) ∧ Arv Z h b425_439_444_467_720 k425_439_444_467_720 (.object xs41) (10 : Int32) [(.ref b699), (.ref b722), .null, .null, .null, .null, .null, .null, .null, .null] .null
set_option maxRecDepth 65536 in
set_option maxHeartbeats 40000000 in
theorem rm_ArrayList_add_2 (l : Launch) (Z : State) (a0 : Array Value) (hw : ∀ d ∈ tables_1, d.before a0 Z = true) (ws : List Jvm.Cond) (b228 : Addr) (b722 : Addr) (b425_439_444_467_720 : Addr) (k425_439_444_467_720 : ClassId) (b699 : Addr) (h0 : Heap) (n0 : Nat) (Z0 : n0 ≤ h0.size) (F_modCount_b228 : Fld Z h0 b228 xs26 "modCount" "I" (.int (1 : Int32))) (E_b228 : Exa Z h0 b228 xs37) (g_b228 : n0 ≤ b228) (F_elementData_b228 : Fld Z h0 b228 xs37 "elementData" xs35 (.ref b425_439_444_467_720)) (F_size_b228 : Fld Z h0 b228 xs37 "size" "I" (.int (1 : Int32))) (V_b425_439_444_467_720 : Arv Z h0 b425_439_444_467_720 k425_439_444_467_720 (.object xs41) (10 : Int32) [(.ref b699), .null, .null, .null, .null, .null, .null, .null, .null, .null] .null) (ovr_b425_439_444_467_720 : Ovr Z k425_439_444_467_720 xs41) (E_b722 : Exa Z h0 b722 xs7) (g_b425_439_444_467_720 : n0 ≤ b425_439_444_467_720) (ne_b228_b425_439_444_467_720 : b228 ≠ b425_439_444_467_720) :
    MetFree l xm28 (head1 (Jvm.Cond.code xm28 jdk_38_method_25_code 2 (some .boolean) :: ws) xr14) (fun a U => a = #[(.ref b228), (.ref b722)] ∧ Z.Warmed39 U.vm ∧ U.heap = h0) (fun _ _ _ _ _ => True) (fun _ U o U' => ∃ v L, o = .returned v ∧ Q_ArrayList_add_2 Z b228 b722 b425_439_444_467_720 k425_439_444_467_720 b699 h0 n0 v U'.heap L ∧ FrameEnd U o U' L xr14.cells xr14.slots) := by
  refine MetFree.of_bodySF (plainFor_of_name pn_9) hisR ?_
  intro p e s m args below meth c s₁ Bd hml0 hP hK
  obtain ⟨rfl, hZ, hh⟩ := hP
  have hx := Bd.exec
  have hby := Bd.bytes
  have hlk : meth.locks = false := BodyLoose.notSynchronized Bd
  have hml : c.maxLocals = 2 := hml0
  have hown : s.vm.findClass xs37 = some m.cls := findClass_of_methodNamed Bd.named
  have hnm := (name_of_methodNamed Bd.named Bd.method).1
  have X0 : Stand p l e xr14 s m #[(.ref b228), (.ref b722)] below meth c s₁ [] 0 0 := Stand.of_body Bd
  have e0 : s₁.heap = h0 := by rw [← hh, Bd.state]; rfl
  have N0 := Fr.nil n0
  show Go p e below s (Q_ArrayList_add_2 Z b228 b722 b425_439_444_467_720 k425_439_444_467_720 b699 h0 n0) xr14.cells xr14.slots s₁ (entryFrame m #[(.ref b228), (.ref b722)] 2)
  refine Go.cast (ef_ArrayList_add_2 m b228 b722) ?_
  show Go p e below s _ _ _ s₁ (mkF m 0 #[.val (.ref b228), .val (.ref b722)] [])
  refine Go.step (fun _ k => XS.aloadN X0.here hx rfl (hb hby d19_0) rfl rfl (XS.dup X0.here hx rfl (hb hby d19_1) rfl rfl k)) ?_
  show Go p e below s _ _ _ s₁ (mkF m 2 #[.val (.ref b228), .val (.ref b722)] [(.ref b228), (.ref b228)])
  obtain ⟨T735, X735, e735, st735⟩ := getF X0 hx hZ hown (host := "") (Or.inl (tw192 hw)) (Via.of (tw145 hw)) e0 F_modCount_b228 (g := (mkF m 2 #[.val (.ref b228), .val (.ref b722)] [(.ref b228), (.ref b228)])) rfl rfl (hb hby d19_2)
  refine Go.step (fun _ k => st735 _ (XS.iconst X735.here hx rfl (hb hby d19_5) (XS.iadd X735.here hx rfl (hb hby d19_6) rfl k))) ?_
  show Go p e below s _ _ _ T735 (mkF m 7 #[.val (.ref b228), .val (.ref b722)] [(.int (2 : Int32)), (.ref b228)])
  obtain ⟨T736, h736, X736, e736, W736, st736⟩ := putF X735 hx hZ hown (host := "") (Or.inl (tw192 hw)) (Via.of (tw145 hw)) e735 F_modCount_b228 E_b228 (Or.inl (tw110 hw)) (tw91 hw) (ty := .int) (by decide) rfl rfl (g := (mkF m 7 #[.val (.ref b228), .val (.ref b722)] [(.int (2 : Int32)), (.ref b228)])) rfl rfl (hb hby d19_7)
  have f737 := F_modCount_b228.same W736
  have N738 := Fr.snoc X736 N0 g_b228
  refine Go.step (fun _ k => st736 _ (XS.aloadN X736.here hx rfl (hb hby d19_10) rfl rfl (XS.aloadN X736.here hx rfl (hb hby d19_11) rfl rfl (XS.aloadN X736.here hx rfl (hb hby d19_12) rfl rfl k)))) ?_
  show Go p e below s _ _ _ T736 (mkF m 13 #[.val (.ref b228), .val (.ref b722)] [(.ref b228), (.ref b722), (.ref b228)])
  have f739 := (F_elementData_b228.other W736 (Or.inr (slot_ne (Or.inl (tw113 hw)) (Or.inl (tw110 hw)) (by decide) (t := (.array (.object xs41))) (t' := .int) (by decide) (by decide))))
  obtain ⟨T740, X740, e740, st740⟩ := getF X736 hx hZ hown (host := "") (Or.inl (tw112 hw)) Via.refl e736 f739 (g := (mkF m 13 #[.val (.ref b228), .val (.ref b722)] [(.ref b228), (.ref b722), (.ref b228)])) rfl rfl (hb hby d19_13)
  refine Go.step (fun _ k => st740 _ (XS.aloadN X740.here hx rfl (hb hby d19_16) rfl rfl k)) ?_
  show Go p e below s _ _ _ T740 (mkF m 17 #[.val (.ref b228), .val (.ref b722)] [(.ref b228), (.ref b425_439_444_467_720), (.ref b722), (.ref b228)])
  have f741 := (F_size_b228.other W736 (Or.inr (slot_ne (Or.inl (tw158 hw)) (Or.inl (tw110 hw)) (by decide) (t := .int) (t' := .int) (by decide) (by decide))))
  obtain ⟨T742, X742, e742, st742⟩ := getF X740 hx hZ hown (host := "") (Or.inl (tw193 hw)) Via.refl e740 f741 (g := (mkF m 17 #[.val (.ref b228), .val (.ref b722)] [(.ref b228), (.ref b425_439_444_467_720), (.ref b722), (.ref b228)])) rfl rfl (hb hby d19_17)
  refine Go.step (fun _ k => st742 _ k) ?_
  show Go p e below s _ _ _ T742 (mkF m 20 #[.val (.ref b228), .val (.ref b722)] [(.int (1 : Int32)), (.ref b425_439_444_467_720), (.ref b722), (.ref b228)])
  have f759 := (Nat.le_trans Z0 (Keep.of_wr W736).1)
  have f760 := (V_b425_439_444_467_720.other W736 (Ne.symm ne_b228_b425_439_444_467_720))
  have f761 := (E_b722.wr W736)
  have f762 := (E_b228.wr W736)
  obtain ⟨cq763, q763, q763'⟩ := f762.cell
  obtain ⟨_, _, ⟨T763, L763, k763, n763⟩, -, X763, ⟨Lc763, hQ763, l763, y763, z763⟩, st763⟩ := X742.privateBack hx (y := xm27) hown (mvT hZ (tw194 hw)) (mvT hZ (tw195 hw)) (mvT hZ (tw197 hw)) (Cond.privateMethod_at (mvP hZ (tw196 hw) (args := #[]))) (mvT hZ (tw198 hw)) (by decide) (backOf (W := 0) (rm_ArrayList_add_3 l Z a0 hw [] b228 b722 b425_439_444_467_720 k425_439_444_467_720 b699 h736 n0 f759 f760 ovr_b425_439_444_467_720 f761 g_b425_439_444_467_720 f762 f741 ne_b228_b425_439_444_467_720 g_b228 f737 f739) hZ (tw198 hw) (tw92 hw) (by decide) (by decide)) (g := (mkF m 20 #[.val (.ref b228), .val (.ref b722)] [(.int (1 : Int32)), (.ref b425_439_444_467_720), (.ref b722), (.ref b228)])) rfl (by rw [hml]; rfl) (Steps.refl _) (a := b228) (by rw [e742]; exact q763) q763' (argsL := [(.ref b722), (.ref b425_439_444_467_720), (.int (1 : Int32))]) (rest := []) (lenOf pd_16 rfl) rfl (by show 2 * 0 + _ ≤ _; exact Nat.le_of_eq rfl) (hb hby d19_20) (fun _ _ => ⟨rfl, e742, (by decide : 0 + 0 ≤ _), (by decide : 0 + 0 ≤ _)⟩)
  dsimp only [Pt.U, Pt.locs, Pt.cells, Pt.slots] at X763 l763 y763 z763 st763 hQ763
  subst l763 y763 z763
  obtain ⟨rfl, N763q, K763, P763_0, P763_1, P763_2, P763_3⟩ := hQ763
  have N764 := Fr.app N738 N763q
  refine Go.step (fun _ k => st763.trans (XS.iconst X763.here hx rfl (hb hby d19_23) k)) ?_
  show Go p e below s _ _ _ T763 (mkF m 24 #[.val (.ref b228), .val (.ref b722)] [(.int (1 : Int32))])
  have f765 := (((Keep.refl h0 [b228, b425_439_444_467_720]).wr W736 (Or.inl (List.mem_of_getElem? (i := 0) rfl))).trans K763 (allS (Or.inl (List.mem_of_getElem? (i := 1) rfl)) (allS (Or.inl (List.mem_of_getElem? (i := 0) rfl)) all0)))
  have f766 := (Nat.le_trans (Nat.le_trans (Nat.le_refl _) (Keep.of_wr W736).1) K763.1)
  exact Go.retN X763 hx hlk (t := .boolean) Bd.returns (by simp) (hb hby d19_24) rfl ⟨rfl, N764, f765, P763_2, P763_3, P763_1, P763_0⟩ (by decide) (by decide)

theorem ef_ArrayList_Itr_new_2 (m : MethodId) (x0 : Addr) (x1 : Addr) : entryFrame m #[(.ref x0), (.ref x1)] 2 = mkF m 0 #[.val (.ref x0), .val (.ref x1)] [] := by first | (simp [entryFrame, mkF, argsToLocals, Value.category]; done) | rfl
def Q_ArrayList_Itr_new_2 (Z : State) (b791 : Addr) (b228 : Addr) (h0 : Heap) (n0 : Nat) (v : Option Value) (h : Heap) (L : List Loc) : Prop := v = none ∧ Fr n0 L ∧ Keep h0 h [b791] ∧ Fld Z h b791 xs24 "this$0" xs29 (.ref b228) ∧ Fld Z h b791 xs24 "lastRet" "I" (.int (-1 : Int32)) ∧ Fld Z h b791 xs24 xs44 "I" (.int (2 : Int32)) ∧ Fld Z h b791 xs24 "cursor" "I" (.int (0 : Int32))
set_option maxRecDepth 65536 in
set_option maxHeartbeats 40000000 in
theorem rm_ArrayList_Itr_new_2 (l : Launch) (Z : State) (a0 : Array Value) (hw : ∀ d ∈ tables_1, d.before a0 Z = true) (ws : List Jvm.Cond) (b791 : Addr) (b228 : Addr) (h0 : Heap) (n0 : Nat) (Z0 : n0 ≤ h0.size) (E_b791 : Exa Z h0 b791 xs24) (F_this_0_b791 : Fld Z h0 b791 xs24 "this$0" xs29 .null) (g_b791 : n0 ≤ b791) (F_lastRet_b791 : Fld Z h0 b791 xs24 "lastRet" "I" (.int (0 : Int32))) (F_modCount_b228 : Fld Z h0 b228 xs26 "modCount" "I" (.int (2 : Int32))) (ne_b228_b791 : b228 ≠ b791) (F_expectedModCount_b791 : Fld Z h0 b791 xs24 xs44 "I" (.int (0 : Int32))) (F_cursor_b791 : Fld Z h0 b791 xs24 "cursor" "I" (.int (0 : Int32))) :
    MetFree l xm12 (head1 (Jvm.Cond.code xm12 jdk_49_method_1_code 2 none :: ws) xr4) (fun a U => a = #[(.ref b791), (.ref b228)] ∧ Z.Warmed39 U.vm ∧ U.heap = h0) (fun _ _ _ _ _ => True) (fun _ U o U' => ∃ v L, o = .returned v ∧ Q_ArrayList_Itr_new_2 Z b791 b228 h0 n0 v U'.heap L ∧ FrameEnd U o U' L xr4.cells xr4.slots) := by
  refine MetFree.of_bodySF (plainFor_of_name pn_12) hisR ?_
  intro p e s m args below meth c s₁ Bd hml0 hP hK
  obtain ⟨rfl, hZ, hh⟩ := hP
  have hx := Bd.exec
  have hby := Bd.bytes
  have hlk : meth.locks = false := BodyLoose.notSynchronized Bd
  have hml : c.maxLocals = 2 := hml0
  have hown : s.vm.findClass xs24 = some m.cls := findClass_of_methodNamed Bd.named
  have hnm := (name_of_methodNamed Bd.named Bd.method).1
  have X0 : Stand p l e xr4 s m #[(.ref b791), (.ref b228)] below meth c s₁ [] 0 0 := Stand.of_body Bd
  have e0 : s₁.heap = h0 := by rw [← hh, Bd.state]; rfl
  have N0 := Fr.nil n0
  show Go p e below s (Q_ArrayList_Itr_new_2 Z b791 b228 h0 n0) xr4.cells xr4.slots s₁ (entryFrame m #[(.ref b791), (.ref b228)] 2)
  refine Go.cast (ef_ArrayList_Itr_new_2 m b791 b228) ?_
  show Go p e below s _ _ _ s₁ (mkF m 0 #[.val (.ref b791), .val (.ref b228)] [])
  refine Go.step (fun _ k => XS.aloadN X0.here hx rfl (hb hby d16_0) rfl rfl (XS.aloadN X0.here hx rfl (hb hby d16_1) rfl rfl k)) ?_
  show Go p e below s _ _ _ s₁ (mkF m 2 #[.val (.ref b791), .val (.ref b228)] [(.ref b228), (.ref b791)])
  obtain ⟨T796, h796, X796, e796, W796, st796⟩ := putF X0 hx hZ hown (host := "") (Or.inl (tw139 hw)) Via.refl e0 F_this_0_b791 E_b791 (Or.inr ⟨(tw140 hw), rfl, hnm⟩) (tw133 hw) (ty := (.object xs37)) (by decide) rfl rfl (g := (mkF m 2 #[.val (.ref b791), .val (.ref b228)] [(.ref b228), (.ref b791)])) rfl rfl (hb hby d16_2)
  have f798 := F_this_0_b791.same W796
  have N799 := Fr.snoc X796 N0 g_b791
  refine Go.step (fun _ k => st796 _ (XS.aloadN X796.here hx rfl (hb hby d16_5) rfl rfl k)) ?_
  show Go p e below s _ _ _ T796 (mkF m 6 #[.val (.ref b791), .val (.ref b228)] [(.ref b791)])
  obtain ⟨T800, X800, e800, st800⟩ := initO X796 hx hZ hown (tw141 hw) (tw33 hw) (tw34 hw) e796 (g := (mkF m 6 #[.val (.ref b791), .val (.ref b228)] [(.ref b791)])) rfl (by rw [hml]; rfl) rfl (hb hby d16_6) (by decide) (W := 0) (by show 2 * 0 + _ ≤ _; exact Nat.le_of_eq rfl) (by decide)
  refine Go.step (fun _ k => st800 _ (XS.aloadN X800.here hx rfl (hb hby d16_9) rfl rfl (XS.iconst X800.here hx rfl (hb hby d16_10) k))) ?_
  show Go p e below s _ _ _ T800 (mkF m 11 #[.val (.ref b791), .val (.ref b228)] [(.int (-1 : Int32)), (.ref b791)])
  have f801 := (F_lastRet_b791.other W796 (Or.inr (slot_ne (Or.inl (tw143 hw)) (Or.inr (tw140 hw)) (by decide) (t := .int) (t' := (.object xs37)) (by decide) (by decide))))
  have f802 := (E_b791.wr W796)
  obtain ⟨T803, h803, X803, e803, W803, st803⟩ := putF X800 hx hZ hown (host := "") (Or.inl (tw142 hw)) Via.refl e800 f801 f802 (Or.inl (tw143 hw)) (tw133 hw) (ty := .int) (by decide) rfl rfl (g := (mkF m 11 #[.val (.ref b791), .val (.ref b228)] [(.int (-1 : Int32)), (.ref b791)])) rfl rfl (hb hby d16_11)
  have f804 := f801.same W803
  have N805 := Fr.snoc X803 N799 g_b791
  refine Go.step (fun _ k => st803 _ (XS.aloadN X803.here hx rfl (hb hby d16_14) rfl rfl (XS.aloadN X803.here hx rfl (hb hby d16_15) rfl rfl k))) ?_
  show Go p e below s _ _ _ T803 (mkF m 16 #[.val (.ref b791), .val (.ref b228)] [(.ref b791), (.ref b791)])
  have f806 := (f798.other W803 (Or.inr (slot_ne (Or.inr (tw140 hw)) (Or.inl (tw143 hw)) (by decide) (t := (.object xs37)) (t' := .int) (by decide) (by decide))))
  obtain ⟨T807, X807, e807, st807⟩ := getF X803 hx hZ hown (host := "") (Or.inl (tw139 hw)) Via.refl e803 f806 (g := (mkF m 16 #[.val (.ref b791), .val (.ref b228)] [(.ref b791), (.ref b791)])) rfl rfl (hb hby d16_16)
  refine Go.step (fun _ k => st807 _ k) ?_
  show Go p e below s _ _ _ T807 (mkF m 19 #[.val (.ref b791), .val (.ref b228)] [(.ref b228), (.ref b791)])
  have f809 := ((F_modCount_b228.other W796 (Or.inl ne_b228_b791)).other W803 (Or.inl ne_b228_b791))
  obtain ⟨T810, X810, e810, st810⟩ := getF X807 hx hZ hown (host := "") (Or.inl (tw144 hw)) (Via.of (tw145 hw)) e807 f809 (g := (mkF m 19 #[.val (.ref b791), .val (.ref b228)] [(.ref b228), (.ref b791)])) rfl rfl (hb hby d16_19)
  refine Go.step (fun _ k => st810 _ k) ?_
  show Go p e below s _ _ _ T810 (mkF m 22 #[.val (.ref b791), .val (.ref b228)] [(.int (2 : Int32)), (.ref b791)])
  have f811 := ((F_expectedModCount_b791.other W796 (Or.inr (slot_ne (Or.inl (tw147 hw)) (Or.inr (tw140 hw)) (by decide) (t := .int) (t' := (.object xs37)) (by decide) (by decide)))).other W803 (Or.inr (slot_ne (Or.inl (tw147 hw)) (Or.inl (tw143 hw)) (by decide) (t := .int) (t' := .int) (by decide) (by decide))))
  have f812 := (f802.wr W803)
  obtain ⟨T813, h813, X813, e813, W813, st813⟩ := putF X810 hx hZ hown (host := "") (Or.inl (tw146 hw)) Via.refl e810 f811 f812 (Or.inl (tw147 hw)) (tw133 hw) (ty := .int) (by decide) rfl rfl (g := (mkF m 22 #[.val (.ref b791), .val (.ref b228)] [(.int (2 : Int32)), (.ref b791)])) rfl rfl (hb hby d16_22)
  have f814 := f811.same W813
  have N815 := Fr.snoc X813 N805 g_b791
  refine Go.step (fun _ k => st813 _ k) ?_
  show Go p e below s _ _ _ T813 (mkF m 25 #[.val (.ref b791), .val (.ref b228)] [])
  have f816 := ((((Keep.refl h0 [b791]).wr W796 (Or.inl (List.mem_of_getElem? (i := 0) rfl))).wr W803 (Or.inl (List.mem_of_getElem? (i := 0) rfl))).wr W813 (Or.inl (List.mem_of_getElem? (i := 0) rfl)))
  have f817 := (f806.other W813 (Or.inr (slot_ne (Or.inr (tw140 hw)) (Or.inl (tw147 hw)) (by decide) (t := (.object xs37)) (t' := .int) (by decide) (by decide))))
  have f818 := (f804.other W813 (Or.inr (slot_ne (Or.inl (tw143 hw)) (Or.inl (tw147 hw)) (by decide) (t := .int) (t' := .int) (by decide) (by decide))))
  have f819 := (((F_cursor_b791.other W796 (Or.inr (slot_ne (Or.inl (tw156 hw)) (Or.inr (tw140 hw)) (by decide) (t := .int) (t' := (.object xs37)) (by decide) (by decide)))).other W803 (Or.inr (slot_ne (Or.inl (tw156 hw)) (Or.inl (tw143 hw)) (by decide) (t := .int) (t' := .int) (by decide) (by decide)))).other W813 (Or.inr (slot_ne (Or.inl (tw156 hw)) (Or.inl (tw147 hw)) (by decide) (t := .int) (t' := .int) (by decide) (by decide))))
  have f820 := (Nat.le_trans (Nat.le_trans (Nat.le_trans (Nat.le_refl _) (Keep.of_wr W796).1) (Keep.of_wr W803).1) (Keep.of_wr W813).1)
  exact Go.retV X813 hx hlk Bd.returns (hb hby d16_25) e813 ⟨rfl, N815, f816, f817, f818, f814, f819⟩ (by decide) (by decide)

theorem ef_ArrayList_iterator_2 (m : MethodId) (x0 : Addr) : entryFrame m #[(.ref x0)] 1 = mkF m 0 #[.val (.ref x0)] [] := by first | (simp [entryFrame, mkF, argsToLocals, Value.category]; done) | rfl
def Q_ArrayList_iterator_2 (Z : State) (b228 : Addr) (h0 : Heap) (n0 : Nat) (v : Option Value) (h : Heap) (L : List Loc) : Prop := ∃ (b791 : Addr), v = some (.ref b791) ∧ Fr n0 L ∧ Keep h0 h [] ∧ h0.size ≤ b791 ∧ Exa Z h b791 xs24 ∧ Fld Z h b791 xs24 "this$0" xs29 (.ref b228) ∧ Fld Z h b791 xs24 "lastRet" "I" (.int (-1 : Int32)) ∧ Fld Z h b791 xs24 xs44 "I" (.int (2 : Int32)) ∧ Fld Z h b791 xs24 "cursor" "I" (.int (0 : Int32))
set_option maxRecDepth 65536 in
set_option maxHeartbeats 40000000 in
theorem rm_ArrayList_iterator_2 (l : Launch) (Z : State) (a0 : Array Value) (hw : ∀ d ∈ tables_1, d.before a0 Z = true) (ws : List Jvm.Cond) (b228 : Addr) (h0 : Heap) (n0 : Nat) (Z0 : n0 ≤ h0.size) (F_modCount_b228 : Fld Z h0 b228 xs26 "modCount" "I" (.int (2 : Int32))) :
    MetFree l xm4 (head1 (Jvm.Cond.code xm4 jdk_38_method_55_code 1 (some (.object xs39)) :: ws) xr12) (fun a U => a = #[(.ref b228)] ∧ Z.Warmed39 U.vm ∧ U.heap = h0) (fun _ _ _ _ _ => True) (fun _ U o U' => ∃ v L, o = .returned v ∧ Q_ArrayList_iterator_2 Z b228 h0 n0 v U'.heap L ∧ FrameEnd U o U' L xr12.cells xr12.slots) := by
  refine MetFree.of_bodySF (plainFor_of_name pn_9) hisR ?_
  intro p e s m args below meth c s₁ Bd hml0 hP hK
  obtain ⟨rfl, hZ, hh⟩ := hP
  have hx := Bd.exec
  have hby := Bd.bytes
  have hlk : meth.locks = false := BodyLoose.notSynchronized Bd
  have hml : c.maxLocals = 1 := hml0
  have hown : s.vm.findClass xs37 = some m.cls := findClass_of_methodNamed Bd.named
  have hnm := (name_of_methodNamed Bd.named Bd.method).1
  have X0 : Stand p l e xr12 s m #[(.ref b228)] below meth c s₁ [] 0 0 := Stand.of_body Bd
  have e0 : s₁.heap = h0 := by rw [← hh, Bd.state]; rfl
  have N0 := Fr.nil n0
  show Go p e below s (Q_ArrayList_iterator_2 Z b228 h0 n0) xr12.cells xr12.slots s₁ (entryFrame m #[(.ref b228)] 1)
  refine Go.cast (ef_ArrayList_iterator_2 m b228) ?_
  show Go p e below s _ _ _ s₁ (mkF m 0 #[.val (.ref b228)] [])
  obtain ⟨T791, h791, X791, e791, E791, A791, D791, -, st791⟩ := newO X0 hx hZ hown (tw132 hw) (tw133 hw) (tw134 hw) e0 (g := (mkF m 0 #[.val (.ref b228)] [])) rfl (hb hby d15_0) (by decide) (by decide)
  obtain ⟨b791, g791⟩ : ∃ z, z = h0.size := ⟨_, rfl⟩
  rw [← g791] at A791 D791 st791
  have f792 : Fld Z h791 b791 xs24 "this$0" xs29 .null := D791 (Or.inr (tw140 hw)) (ty := (.object xs37)) (by decide)
  have f793 : Fld Z h791 b791 xs24 "lastRet" "I" (.int (0 : Int32)) := D791 (Or.inl (tw143 hw)) (ty := .int) (by decide)
  have f794 : Fld Z h791 b791 xs24 xs44 "I" (.int (0 : Int32)) := D791 (Or.inl (tw147 hw)) (ty := .int) (by decide)
  have f795 : Fld Z h791 b791 xs24 "cursor" "I" (.int (0 : Int32)) := D791 (Or.inl (tw156 hw)) (ty := .int) (by decide)
  refine Go.step (fun _ k => st791 _ (XS.dup X791.here hx rfl (hb hby d15_3) rfl rfl (XS.aloadN X791.here hx rfl (hb hby d15_4) rfl rfl k))) ?_
  show Go p e below s _ _ _ T791 (mkF m 5 #[.val (.ref b228)] [(.ref b228), (.ref b791), (.ref b791)])
  have g797 := Nat.le_trans Z0 (Nat.le_of_eq g791.symm)
  have ne808 : b228 ≠ b791 := Nat.ne_of_lt (Nat.lt_of_lt_of_le F_modCount_b228.lt (Nat.le_of_eq g791.symm))
  have f821 := (Nat.le_trans Z0 E791.1)
  have f822 := (F_modCount_b228.ext E791)
  obtain ⟨_, _, ⟨T823, L823, k823, n823⟩, -, X823, ⟨Lc823, hQ823, l823, y823, z823⟩, st823⟩ := X791.specialBack hx (y := xm12) rfl hown (mvT hZ (tw135 hw)) (mvT hZ (tw136 hw)) (mvT hZ (tw138 hw)) (by decide) (backOf (W := 1) (rm_ArrayList_Itr_new_2 l Z a0 hw [] b791 b228 h791 n0 f821 A791 f792 g797 f793 f822 ne808 f794 f795) hZ (tw138 hw) (tw134 hw) (by decide) (by decide)) (g := (mkF m 5 #[.val (.ref b228)] [(.ref b228), (.ref b791), (.ref b791)])) rfl (by rw [hml]; rfl) (Steps.refl _) (a := b791) (argsL := [(.ref b228)]) (rest := [(.ref b791)]) (lenOf pd_8 rfl) rfl (by show 2 * 0 + _ ≤ _; exact Nat.le_of_eq rfl) (hb hby d15_5) (fun _ _ => ⟨rfl, e791, (by decide : 1 + 0 ≤ _), (by decide : 4 + 0 ≤ _)⟩)
  dsimp only [Pt.U, Pt.locs, Pt.cells, Pt.slots] at X823 l823 y823 z823 st823 hQ823
  subst l823 y823 z823
  obtain ⟨rfl, N823q, K823, P823_0, P823_1, P823_2, P823_3⟩ := hQ823
  have N824 := Fr.app N0 N823q
  refine Go.step (fun _ k => st823.trans k) ?_
  show Go p e below s _ _ _ T823 (mkF m 8 #[.val (.ref b228)] [(.ref b791)])
  have z825 := Nat.le_trans (Nat.le_refl _) (Nat.le_of_eq g791.symm)
  have f826 := (((Keep.refl h0 []).ext E791).trans K823 (allS (Or.inr z825) all0))
  have f827 := (A791.keep K823)
  have f828 := (Nat.le_trans (Nat.le_trans (Nat.le_refl _) E791.1) K823.1)
  exact Go.retA X823 hx hlk Bd.returns rfl rfl (hb hby d15_8) rfl ⟨b791, rfl, N824, f826, z825, f827, P823_0, P823_1, P823_2, P823_3⟩ (by decide) (by decide)

theorem ef_ArrayList_Itr_hasNext_3 (m : MethodId) (x0 : Addr) : entryFrame m #[(.ref x0)] 1 = mkF m 0 #[.val (.ref x0)] [] := by first | (simp [entryFrame, mkF, argsToLocals, Value.category]; done) | rfl
def Q_ArrayList_Itr_hasNext_3 (Z : State) (b791_833 : Addr) (b228 : Addr) (h0 : Heap) (n0 : Nat) (v : Option Value) (h : Heap) (L : List Loc) : Prop := v = some (.int (1 : Int32)) ∧ Fr n0 L ∧ h = h0
set_option maxRecDepth 65536 in
set_option maxHeartbeats 40000000 in
theorem rm_ArrayList_Itr_hasNext_3 (l : Launch) (Z : State) (a0 : Array Value) (hw : ∀ d ∈ tables_1, d.before a0 Z = true) (ws : List Jvm.Cond) (b791_833 : Addr) (b228 : Addr) (h0 : Heap) (n0 : Nat) (Z0 : n0 ≤ h0.size) (F_cursor_b791_833 : Fld Z h0 b791_833 xs24 "cursor" "I" (.int (0 : Int32))) (F_this_0_b791_833 : Fld Z h0 b791_833 xs24 "this$0" xs29 (.ref b228)) (F_size_b228 : Fld Z h0 b228 xs37 "size" "I" (.int (2 : Int32))) :
    MetFree l xm5 (head1 (Jvm.Cond.code xm5 jdk_49_method_2_code 1 (some .boolean) :: ws) xr15) (fun a U => a = #[(.ref b791_833)] ∧ Z.Warmed39 U.vm ∧ U.heap = h0) (fun _ _ _ _ _ => True) (fun _ U o U' => ∃ v L, o = .returned v ∧ Q_ArrayList_Itr_hasNext_3 Z b791_833 b228 h0 n0 v U'.heap L ∧ FrameEnd U o U' L xr15.cells xr15.slots) := by
  refine MetFree.of_bodySF (plainFor_of_name pn_12) hisR ?_
  intro p e s m args below meth c s₁ Bd hml0 hP hK
  obtain ⟨rfl, hZ, hh⟩ := hP
  have hx := Bd.exec
  have hby := Bd.bytes
  have hlk : meth.locks = false := BodyLoose.notSynchronized Bd
  have hml : c.maxLocals = 1 := hml0
  have hown : s.vm.findClass xs24 = some m.cls := findClass_of_methodNamed Bd.named
  have hnm := (name_of_methodNamed Bd.named Bd.method).1
  have X0 : Stand p l e xr15 s m #[(.ref b791_833)] below meth c s₁ [] 0 0 := Stand.of_body Bd
  have e0 : s₁.heap = h0 := by rw [← hh, Bd.state]; rfl
  have N0 := Fr.nil n0
  show Go p e below s (Q_ArrayList_Itr_hasNext_3 Z b791_833 b228 h0 n0) xr15.cells xr15.slots s₁ (entryFrame m #[(.ref b791_833)] 1)
  refine Go.cast (ef_ArrayList_Itr_hasNext_3 m b791_833) ?_
  show Go p e below s _ _ _ s₁ (mkF m 0 #[.val (.ref b791_833)] [])
  refine Go.step (fun _ k => XS.aloadN X0.here hx rfl (hb hby d17_0) rfl rfl k) ?_
  show Go p e below s _ _ _ s₁ (mkF m 1 #[.val (.ref b791_833)] [(.ref b791_833)])
  obtain ⟨T836, X836, e836, st836⟩ := getF X0 hx hZ hown (host := "") (Or.inl (tw155 hw)) Via.refl e0 F_cursor_b791_833 (g := (mkF m 1 #[.val (.ref b791_833)] [(.ref b791_833)])) rfl rfl (hb hby d17_1)
  refine Go.step (fun _ k => st836 _ (XS.aloadN X836.here hx rfl (hb hby d17_4) rfl rfl k)) ?_
  show Go p e below s _ _ _ T836 (mkF m 5 #[.val (.ref b791_833)] [(.ref b791_833), (.int (0 : Int32))])
  obtain ⟨T837, X837, e837, st837⟩ := getF X836 hx hZ hown (host := "") (Or.inl (tw139 hw)) Via.refl e836 F_this_0_b791_833 (g := (mkF m 5 #[.val (.ref b791_833)] [(.ref b791_833), (.int (0 : Int32))])) rfl rfl (hb hby d17_5)
  refine Go.step (fun _ k => st837 _ k) ?_
  show Go p e below s _ _ _ T837 (mkF m 8 #[.val (.ref b791_833)] [(.ref b228), (.int (0 : Int32))])
  obtain ⟨T838, X838, e838, st838⟩ := getF X837 hx hZ hown (Or.inr (tw157 hw)) Via.refl e837 F_size_b228 (g := (mkF m 8 #[.val (.ref b791_833)] [(.ref b228), (.int (0 : Int32))])) rfl rfl (hb hby d17_8)
  refine Go.step (fun _ k => st838 _ (XS.icmpNo X838.here hx rfl (hb hby d17_11) rfl (feq (by decide)).1 (XS.iconst X838.here hx rfl (hb hby d17_14) (XS.goto X838.here hx rfl (pc0 := 15) (pc' := 19) rfl (hb hby d17_15) (by decide) (by decide) k)))) ?_
  show Go p e below s _ _ _ T838 (mkF m 19 #[.val (.ref b791_833)] [(.int (1 : Int32))])
  exact Go.retN X838 hx hlk (t := .boolean) Bd.returns (by simp) (hb hby d17_19) e838 ⟨rfl, N0, rfl⟩ (by decide) (by decide)

theorem ef_ArrayList_Itr_checkForComodification_1 (m : MethodId) (x0 : Addr) : entryFrame m #[(.ref x0)] 1 = mkF m 0 #[.val (.ref x0)] [] := by first | (simp [entryFrame, mkF, argsToLocals, Value.category]; done) | rfl
def Q_ArrayList_Itr_checkForComodification_1 (Z : State) (b791_833 : Addr) (b228 : Addr) (h0 : Heap) (n0 : Nat) (v : Option Value) (h : Heap) (L : List Loc) : Prop := v = none ∧ Fr n0 L ∧ h = h0
set_option maxRecDepth 65536 in
set_option maxHeartbeats 40000000 in
theorem rm_ArrayList_Itr_checkForComodification_1 (l : Launch) (Z : State) (a0 : Array Value) (hw : ∀ d ∈ tables_1, d.before a0 Z = true) (ws : List Jvm.Cond) (b791_833 : Addr) (b228 : Addr) (h0 : Heap) (n0 : Nat) (Z0 : n0 ≤ h0.size) (F_this_0_b791_833 : Fld Z h0 b791_833 xs24 "this$0" xs29 (.ref b228)) (F_modCount_b228 : Fld Z h0 b228 xs26 "modCount" "I" (.int (2 : Int32))) (F_expectedModCount_b791_833 : Fld Z h0 b791_833 xs24 xs44 "I" (.int (2 : Int32))) :
    MetFree l xm29 (head1 (Jvm.Cond.code xm29 jdk_49_method_6_code 1 none :: ws) xr15) (fun a U => a = #[(.ref b791_833)] ∧ Z.Warmed39 U.vm ∧ U.heap = h0) (fun _ _ _ _ _ => True) (fun _ U o U' => ∃ v L, o = .returned v ∧ Q_ArrayList_Itr_checkForComodification_1 Z b791_833 b228 h0 n0 v U'.heap L ∧ FrameEnd U o U' L xr15.cells xr15.slots) := by
  refine MetFree.of_bodySF (plainFor_of_name pn_12) hisR ?_
  intro p e s m args below meth c s₁ Bd hml0 hP hK
  obtain ⟨rfl, hZ, hh⟩ := hP
  have hx := Bd.exec
  have hby := Bd.bytes
  have hlk : meth.locks = false := BodyLoose.notSynchronized Bd
  have hml : c.maxLocals = 1 := hml0
  have hown : s.vm.findClass xs24 = some m.cls := findClass_of_methodNamed Bd.named
  have hnm := (name_of_methodNamed Bd.named Bd.method).1
  have X0 : Stand p l e xr15 s m #[(.ref b791_833)] below meth c s₁ [] 0 0 := Stand.of_body Bd
  have e0 : s₁.heap = h0 := by rw [← hh, Bd.state]; rfl
  have N0 := Fr.nil n0
  show Go p e below s (Q_ArrayList_Itr_checkForComodification_1 Z b791_833 b228 h0 n0) xr15.cells xr15.slots s₁ (entryFrame m #[(.ref b791_833)] 1)
  refine Go.cast (ef_ArrayList_Itr_checkForComodification_1 m b791_833) ?_
  show Go p e below s _ _ _ s₁ (mkF m 0 #[.val (.ref b791_833)] [])
  refine Go.step (fun _ k => XS.aloadN X0.here hx rfl (hb hby d25_0) rfl rfl k) ?_
  show Go p e below s _ _ _ s₁ (mkF m 1 #[.val (.ref b791_833)] [(.ref b791_833)])
  obtain ⟨T843, X843, e843, st843⟩ := getF X0 hx hZ hown (host := "") (Or.inl (tw139 hw)) Via.refl e0 F_this_0_b791_833 (g := (mkF m 1 #[.val (.ref b791_833)] [(.ref b791_833)])) rfl rfl (hb hby d25_1)
  refine Go.step (fun _ k => st843 _ k) ?_
  show Go p e below s _ _ _ T843 (mkF m 4 #[.val (.ref b791_833)] [(.ref b228)])
  obtain ⟨T844, X844, e844, st844⟩ := getF X843 hx hZ hown (host := "") (Or.inl (tw144 hw)) (Via.of (tw145 hw)) e843 F_modCount_b228 (g := (mkF m 4 #[.val (.ref b791_833)] [(.ref b228)])) rfl rfl (hb hby d25_4)
  refine Go.step (fun _ k => st844 _ (XS.aloadN X844.here hx rfl (hb hby d25_7) rfl rfl k)) ?_
  show Go p e below s _ _ _ T844 (mkF m 8 #[.val (.ref b791_833)] [(.ref b791_833), (.int (2 : Int32))])
  obtain ⟨T845, X845, e845, st845⟩ := getF X844 hx hZ hown (host := "") (Or.inl (tw146 hw)) Via.refl e844 F_expectedModCount_b791_833 (g := (mkF m 8 #[.val (.ref b791_833)] [(.ref b791_833), (.int (2 : Int32))])) rfl rfl (hb hby d25_8)
  refine Go.step (fun _ k => st845 _ (XS.icmpYes X845.here hx rfl (pc0 := 11) (pc' := 22) rfl (hb hby d25_11) rfl (teq (by decide)).1 (by decide) (by decide) k)) ?_
  show Go p e below s _ _ _ T845 (mkF m 22 #[.val (.ref b791_833)] [])
  exact Go.retV X845 hx hlk Bd.returns (hb hby d25_22) e845 ⟨rfl, N0, rfl⟩ (by decide) (by decide)

theorem ef_ArrayList_Itr_next_1 (m : MethodId) (x0 : Addr) : entryFrame m #[(.ref x0)] 3 = mkF m 0 #[.val (.ref x0), .unset, .unset] [] := by first | (simp [entryFrame, mkF, argsToLocals, Value.category]; done) | rfl
def Q_ArrayList_Itr_next_1 (Z : State) (b791_833 : Addr) (b228 : Addr) (b425_439_444_467_720 : Addr) (k425_439_444_467_720 : ClassId) (b699 : Addr) (b722 : Addr) (h0 : Heap) (n0 : Nat) (v : Option Value) (h : Heap) (L : List Loc) : Prop := v = some (.ref b699) ∧ Fr n0 L ∧ Keep h0 h [b791_833] ∧ Fld Z h b791_833 xs24 "this$0" xs29 (.ref b228) ∧ Fld Z h b791_833 xs24 xs44 "I" (.int (2 : Int32)) ∧ Fld Z h b791_833 xs24 "cursor" "I" (.int (1 : Int32)) ∧ Fld Z h b791_833 xs24 "lastRet" "I" (.int (0 : Int32))
set_option maxRecDepth 65536 in
set_option maxHeartbeats 40000000 in
theorem rm_ArrayList_Itr_next_1 (l : Launch) (Z : State) (a0 : Array Value) (hw : ∀ d ∈ tables_1, d.before a0 Z = true) (ws : List Jvm.Cond) (b791_833 : Addr) (b228 : Addr) (b425_439_444_467_720 : Addr) (k425_439_444_467_720 : ClassId) (b699 : Addr) (b722 : Addr) (h0 : Heap) (n0 : Nat) (Z0 : n0 ≤ h0.size) (E_b791_833 : Exa Z h0 b791_833 xs24) (F_this_0_b791_833 : Fld Z h0 b791_833 xs24 "this$0" xs29 (.ref b228)) (F_modCount_b228 : Fld Z h0 b228 xs26 "modCount" "I" (.int (2 : Int32))) (F_expectedModCount_b791_833 : Fld Z h0 b791_833 xs24 xs44 "I" (.int (2 : Int32))) (F_cursor_b791_833 : Fld Z h0 b791_833 xs24 "cursor" "I" (.int (0 : Int32))) (F_size_b228 : Fld Z h0 b228 xs37 "size" "I" (.int (2 : Int32))) (F_elementData_b228 : Fld Z h0 b228 xs37 "elementData" xs35 (.ref b425_439_444_467_720)) (V_b425_439_444_467_720 : Arv Z h0 b425_439_444_467_720 k425_439_444_467_720 (.object xs41) (10 : Int32) [(.ref b699), (.ref b722), .null, .null, .null, .null, .null, .null, .null, .null] .null) (g_b791_833 : n0 ≤ b791_833) (F_lastRet_b791_833 : Fld Z h0 b791_833 xs24 "lastRet" "I" (.int (-1 : Int32))) (ne_b425_439_444_467_720_b791_833 : b425_439_444_467_720 ≠ b791_833) :
    MetFree l xm23 (head1 (Jvm.Cond.code xm23 jdk_49_method_3_code 3 (some (.object xs41)) :: ws) xr4) (fun a U => a = #[(.ref b791_833)] ∧ Z.Warmed39 U.vm ∧ U.heap = h0) (fun _ _ _ _ _ => True) (fun _ U o U' => ∃ v L, o = .returned v ∧ Q_ArrayList_Itr_next_1 Z b791_833 b228 b425_439_444_467_720 k425_439_444_467_720 b699 b722 h0 n0 v U'.heap L ∧ FrameEnd U o U' L xr4.cells xr4.slots) := by
  refine MetFree.of_bodySF (plainFor_of_name pn_12) hisR ?_
  intro p e s m args below meth c s₁ Bd hml0 hP hK
  obtain ⟨rfl, hZ, hh⟩ := hP
  have hx := Bd.exec
  have hby := Bd.bytes
  have hlk : meth.locks = false := BodyLoose.notSynchronized Bd
  have hml : c.maxLocals = 3 := hml0
  have hown : s.vm.findClass xs24 = some m.cls := findClass_of_methodNamed Bd.named
  have hnm := (name_of_methodNamed Bd.named Bd.method).1
  have X0 : Stand p l e xr4 s m #[(.ref b791_833)] below meth c s₁ [] 0 0 := Stand.of_body Bd
  have e0 : s₁.heap = h0 := by rw [← hh, Bd.state]; rfl
  have N0 := Fr.nil n0
  show Go p e below s (Q_ArrayList_Itr_next_1 Z b791_833 b228 b425_439_444_467_720 k425_439_444_467_720 b699 b722 h0 n0) xr4.cells xr4.slots s₁ (entryFrame m #[(.ref b791_833)] 3)
  refine Go.cast (ef_ArrayList_Itr_next_1 m b791_833) ?_
  show Go p e below s _ _ _ s₁ (mkF m 0 #[.val (.ref b791_833), .unset, .unset] [])
  refine Go.step (fun _ k => XS.aloadN X0.here hx rfl (hb hby d24_0) rfl rfl k) ?_
  show Go p e below s _ _ _ s₁ (mkF m 1 #[.val (.ref b791_833), .unset, .unset] [(.ref b791_833)])
  obtain ⟨cq846, kq846, q846a, q846b, q846c⟩ := isOf hZ e0 E_b791_833
  obtain ⟨_, _, ⟨T846, L846, k846, n846⟩, -, X846, ⟨Lc846, hQ846, l846, y846, z846⟩, st846⟩ := X0.virtualBack hx (y := xm29) (z := xm29) hown (mvT hZ (tw224 hw)) (mvT hZ (tw225 hw)) (notFace_of_selects (args := #[]) (mvT hZ (tw227 hw))) (mvT hZ (tw227 hw)) (mvT hZ (tw226 hw)) (by decide) (backOf (W := 0) (rm_ArrayList_Itr_checkForComodification_1 l Z a0 hw [] b791_833 b228 h0 n0 Z0 F_this_0_b791_833 F_modCount_b228 F_expectedModCount_b791_833) hZ (tw228 hw) (tw134 hw) (by decide) (by decide)) q846a q846c (g := (mkF m 1 #[.val (.ref b791_833), .unset, .unset] [(.ref b791_833)])) rfl (by rw [hml]; rfl) (Steps.refl _) (argsL := []) (rest := []) (lenOf pd_7 rfl) rfl (by show 2 * 0 + _ ≤ _; exact Nat.le_of_eq rfl) (hb hby d24_1) (fun _ _ => ⟨rfl, e0, (by decide : 0 + 0 ≤ _), (by decide : 0 + 0 ≤ _)⟩)
  dsimp only [Pt.U, Pt.locs, Pt.cells, Pt.slots] at X846 l846 y846 z846 st846 hQ846
  subst l846 y846 z846
  obtain ⟨rfl, N846q, eq846⟩ := hQ846
  have N847 := Fr.app N0 N846q
  refine Go.step (fun _ k => st846.trans (XS.aloadN X846.here hx rfl (hb hby d24_4) rfl rfl k)) ?_
  show Go p e below s _ _ _ T846 (mkF m 5 #[.val (.ref b791_833), .unset, .unset] [(.ref b791_833)])
  obtain ⟨T848, X848, e848, st848⟩ := getF X846 hx hZ hown (host := "") (Or.inl (tw155 hw)) Via.refl eq846 F_cursor_b791_833 (g := (mkF m 5 #[.val (.ref b791_833), .unset, .unset] [(.ref b791_833)])) rfl rfl (hb hby d24_5)
  refine Go.step (fun _ k => st848 _ (XS.istoreN X848.here hx rfl (hb hby d24_8) rfl (l' := #[.val (.ref b791_833), .val (.int (0 : Int32)), .unset]) rfl (XS.iloadN X848.here hx rfl (hb hby d24_9) rfl (XS.aloadN X848.here hx rfl (hb hby d24_10) rfl rfl k)))) ?_
  show Go p e below s _ _ _ T848 (mkF m 11 #[.val (.ref b791_833), .val (.int (0 : Int32)), .unset] [(.ref b791_833), (.int (0 : Int32))])
  obtain ⟨T849, X849, e849, st849⟩ := getF X848 hx hZ hown (host := "") (Or.inl (tw139 hw)) Via.refl e848 F_this_0_b791_833 (g := (mkF m 11 #[.val (.ref b791_833), .val (.int (0 : Int32)), .unset] [(.ref b791_833), (.int (0 : Int32))])) rfl rfl (hb hby d24_11)
  refine Go.step (fun _ k => st849 _ k) ?_
  show Go p e below s _ _ _ T849 (mkF m 14 #[.val (.ref b791_833), .val (.int (0 : Int32)), .unset] [(.ref b228), (.int (0 : Int32))])
  obtain ⟨T850, X850, e850, st850⟩ := getF X849 hx hZ hown (Or.inr (tw157 hw)) Via.refl e849 F_size_b228 (g := (mkF m 14 #[.val (.ref b791_833), .val (.int (0 : Int32)), .unset] [(.ref b228), (.int (0 : Int32))])) rfl rfl (hb hby d24_14)
  refine Go.step (fun _ k => st850 _ (XS.icmpYes X850.here hx rfl (pc0 := 17) (pc' := 28) rfl (hb hby d24_17) rfl (tlt (by decide)).1 (by decide) (by decide) (XS.aloadN X850.here hx rfl (hb hby d24_28) rfl rfl k))) ?_
  show Go p e below s _ _ _ T850 (mkF m 29 #[.val (.ref b791_833), .val (.int (0 : Int32)), .unset] [(.ref b791_833)])
  obtain ⟨T851, X851, e851, st851⟩ := getF X850 hx hZ hown (host := "") (Or.inl (tw139 hw)) Via.refl e850 F_this_0_b791_833 (g := (mkF m 29 #[.val (.ref b791_833), .val (.int (0 : Int32)), .unset] [(.ref b791_833)])) rfl rfl (hb hby d24_29)
  refine Go.step (fun _ k => st851 _ k) ?_
  show Go p e below s _ _ _ T851 (mkF m 32 #[.val (.ref b791_833), .val (.int (0 : Int32)), .unset] [(.ref b228)])
  obtain ⟨T852, X852, e852, st852⟩ := getF X851 hx hZ hown (host := "") (Or.inl (tw229 hw)) Via.refl e851 F_elementData_b228 (g := (mkF m 32 #[.val (.ref b791_833), .val (.int (0 : Int32)), .unset] [(.ref b228)])) rfl rfl (hb hby d24_32)
  refine Go.step (fun _ k => st852 _ (XS.astoreN X852.here hx rfl (hb hby d24_35) rfl rfl (l' := #[.val (.ref b791_833), .val (.int (0 : Int32)), .val (.ref b425_439_444_467_720)]) rfl (XS.iloadN X852.here hx rfl (hb hby d24_36) rfl (XS.aloadN X852.here hx rfl (hb hby d24_37) rfl rfl k)))) ?_
  show Go p e below s _ _ _ T852 (mkF m 38 #[.val (.ref b791_833), .val (.int (0 : Int32)), .val (.ref b425_439_444_467_720)] [(.ref b425_439_444_467_720), (.int (0 : Int32))])
  obtain ⟨cl853, Ar853, -, Sz853, Ng853, -, -⟩ := id V_b425_439_444_467_720
  have aln853 := X852.arraylength hx (by rw [e852]; exact Ar853.1) (State.isArrayOf_alike hZ.alike Ar853.2.1) (g := (mkF m 38 #[.val (.ref b791_833), .val (.int (0 : Int32)), .val (.ref b425_439_444_467_720)] [(.ref b425_439_444_467_720), (.int (0 : Int32))])) rfl rfl (hb hby d24_38)
  rw [len_of Sz853 Ng853] at aln853
  refine Go.step (fun _ k => aln853 _ (XS.icmpYes X852.here hx rfl (pc0 := 39) (pc' := 50) rfl (hb hby d24_39) rfl (tlt (by decide)).1 (by decide) (by decide) (XS.aloadN X852.here hx rfl (hb hby d24_50) rfl rfl (XS.iloadN X852.here hx rfl (hb hby d24_51) rfl (XS.iconst X852.here hx rfl (hb hby d24_52) (XS.iadd X852.here hx rfl (hb hby d24_53) rfl k)))))) ?_
  show Go p e below s _ _ _ T852 (mkF m 54 #[.val (.ref b791_833), .val (.int (0 : Int32)), .val (.ref b425_439_444_467_720)] [(.int (1 : Int32)), (.ref b791_833)])
  obtain ⟨T854, h854, X854, e854, W854, st854⟩ := putF X852 hx hZ hown (host := "") (Or.inl (tw155 hw)) Via.refl e852 F_cursor_b791_833 E_b791_833 (Or.inl (tw156 hw)) (tw133 hw) (ty := .int) (by decide) rfl rfl (g := (mkF m 54 #[.val (.ref b791_833), .val (.int (0 : Int32)), .val (.ref b425_439_444_467_720)] [(.int (1 : Int32)), (.ref b791_833)])) rfl rfl (hb hby d24_54)
  have f856 := F_cursor_b791_833.same W854
  have N857 := Fr.snoc X854 N847 g_b791_833
  refine Go.step (fun _ k => st854 _ (XS.aloadN X854.here hx rfl (hb hby d24_57) rfl rfl (XS.aloadN X854.here hx rfl (hb hby d24_58) rfl rfl (XS.iloadN X854.here hx rfl (hb hby d24_59) rfl (XS.dupX1 X854.here hx rfl (hb hby d24_60) rfl rfl rfl k))))) ?_
  show Go p e below s _ _ _ T854 (mkF m 61 #[.val (.ref b791_833), .val (.int (0 : Int32)), .val (.ref b425_439_444_467_720)] [(.int (0 : Int32)), (.ref b791_833), (.int (0 : Int32)), (.ref b425_439_444_467_720)])
  have f858 := (F_lastRet_b791_833.other W854 (Or.inr (slot_ne (Or.inl (tw143 hw)) (Or.inl (tw156 hw)) (by decide) (t := .int) (t' := .int) (by decide) (by decide))))
  have f859 := (E_b791_833.wr W854)
  obtain ⟨T860, h860, X860, e860, W860, st860⟩ := putF X854 hx hZ hown (host := "") (Or.inl (tw142 hw)) Via.refl e854 f858 f859 (Or.inl (tw143 hw)) (tw133 hw) (ty := .int) (by decide) rfl rfl (g := (mkF m 61 #[.val (.ref b791_833), .val (.int (0 : Int32)), .val (.ref b425_439_444_467_720)] [(.int (0 : Int32)), (.ref b791_833), (.int (0 : Int32)), (.ref b425_439_444_467_720)])) rfl rfl (hb hby d24_61)
  have f861 := f858.same W860
  have N862 := Fr.snoc X860 N857 g_b791_833
  refine Go.step (fun _ k => st860 _ k) ?_
  show Go p e below s _ _ _ T860 (mkF m 64 #[.val (.ref b791_833), .val (.int (0 : Int32)), .val (.ref b425_439_444_467_720)] [(.int (0 : Int32)), (.ref b425_439_444_467_720)])
  have f866 := ((V_b425_439_444_467_720.other W854 ne_b425_439_444_467_720_b791_833).other W860 ne_b425_439_444_467_720_b791_833)
  obtain ⟨cl867, Ar867, -, Sz867, Ng867, Hs867, Ft867⟩ := id f866
  have in867 : ¬ ((0 : Int32) < 0 ∨ cl867.slots.size ≤ ((0 : Int32)).toNatClampNeg) := (inb_of Sz867 ⟨by decide, by decide⟩)
  have at867 : cl867.slots[((0 : Int32)).toNatClampNeg]? = some (.ref b699) := Hs867.at in867 rfl
  refine Go.step (fun _ k => X860.aaload hx (j := (0 : Int32)) (v := (.ref b699)) (by rw [e860]; exact Ar867.1) (State.isArrayOf_alike hZ.alike Ar867.2.1) rfl Ar867.2.2 in867 at867 (g := (mkF m 64 #[.val (.ref b791_833), .val (.int (0 : Int32)), .val (.ref b425_439_444_467_720)] [(.int (0 : Int32)), (.ref b425_439_444_467_720)])) rfl rfl (hb hby d24_64) _ k) ?_
  show Go p e below s _ _ _ T860 (mkF m 65 #[.val (.ref b791_833), .val (.int (0 : Int32)), .val (.ref b425_439_444_467_720)] [(.ref b699)])
  have f868 := (((Keep.refl h0 [b791_833]).wr W854 (Or.inl (List.mem_of_getElem? (i := 0) rfl))).wr W860 (Or.inl (List.mem_of_getElem? (i := 0) rfl)))
  have f869 := ((F_this_0_b791_833.other W854 (Or.inr (slot_ne (Or.inr (tw140 hw)) (Or.inl (tw156 hw)) (by decide) (t := (.object xs37)) (t' := .int) (by decide) (by decide)))).other W860 (Or.inr (slot_ne (Or.inr (tw140 hw)) (Or.inl (tw143 hw)) (by decide) (t := (.object xs37)) (t' := .int) (by decide) (by decide))))
  have f870 := ((F_expectedModCount_b791_833.other W854 (Or.inr (slot_ne (Or.inl (tw147 hw)) (Or.inl (tw156 hw)) (by decide) (t := .int) (t' := .int) (by decide) (by decide)))).other W860 (Or.inr (slot_ne (Or.inl (tw147 hw)) (Or.inl (tw143 hw)) (by decide) (t := .int) (t' := .int) (by decide) (by decide))))
  have f871 := (f856.other W860 (Or.inr (slot_ne (Or.inl (tw156 hw)) (Or.inl (tw143 hw)) (by decide) (t := .int) (t' := .int) (by decide) (by decide))))
  have f872 := (Nat.le_trans (Nat.le_trans (Nat.le_refl _) (Keep.of_wr W854).1) (Keep.of_wr W860).1)
  exact Go.retA X860 hx hlk Bd.returns rfl rfl (hb hby d24_65) e860 ⟨rfl, N862, f868, f869, f870, f871, f861⟩ (by decide) (by decide)

theorem ef_ArrayList_Itr_hasNext_4 (m : MethodId) (x0 : Addr) : entryFrame m #[(.ref x0)] 1 = mkF m 0 #[.val (.ref x0)] [] := by first | (simp [entryFrame, mkF, argsToLocals, Value.category]; done) | rfl
def Q_ArrayList_Itr_hasNext_4 (Z : State) (b791_833 : Addr) (b228 : Addr) (h0 : Heap) (n0 : Nat) (v : Option Value) (h : Heap) (L : List Loc) : Prop := v = some (.int (1 : Int32)) ∧ Fr n0 L ∧ h = h0
set_option maxRecDepth 65536 in
set_option maxHeartbeats 40000000 in
theorem rm_ArrayList_Itr_hasNext_4 (l : Launch) (Z : State) (a0 : Array Value) (hw : ∀ d ∈ tables_1, d.before a0 Z = true) (ws : List Jvm.Cond) (b791_833 : Addr) (b228 : Addr) (h0 : Heap) (n0 : Nat) (Z0 : n0 ≤ h0.size) (F_cursor_b791_833 : Fld Z h0 b791_833 xs24 "cursor" "I" (.int (1 : Int32))) (F_this_0_b791_833 : Fld Z h0 b791_833 xs24 "this$0" xs29 (.ref b228)) (F_size_b228 : Fld Z h0 b228 xs37 "size" "I" (.int (2 : Int32))) :
    MetFree l xm5 (head1 (Jvm.Cond.code xm5 jdk_49_method_2_code 1 (some .boolean) :: ws) xr15) (fun a U => a = #[(.ref b791_833)] ∧ Z.Warmed39 U.vm ∧ U.heap = h0) (fun _ _ _ _ _ => True) (fun _ U o U' => ∃ v L, o = .returned v ∧ Q_ArrayList_Itr_hasNext_4 Z b791_833 b228 h0 n0 v U'.heap L ∧ FrameEnd U o U' L xr15.cells xr15.slots) := by
  refine MetFree.of_bodySF (plainFor_of_name pn_12) hisR ?_
  intro p e s m args below meth c s₁ Bd hml0 hP hK
  obtain ⟨rfl, hZ, hh⟩ := hP
  have hx := Bd.exec
  have hby := Bd.bytes
  have hlk : meth.locks = false := BodyLoose.notSynchronized Bd
  have hml : c.maxLocals = 1 := hml0
  have hown : s.vm.findClass xs24 = some m.cls := findClass_of_methodNamed Bd.named
  have hnm := (name_of_methodNamed Bd.named Bd.method).1
  have X0 : Stand p l e xr15 s m #[(.ref b791_833)] below meth c s₁ [] 0 0 := Stand.of_body Bd
  have e0 : s₁.heap = h0 := by rw [← hh, Bd.state]; rfl
  have N0 := Fr.nil n0
  show Go p e below s (Q_ArrayList_Itr_hasNext_4 Z b791_833 b228 h0 n0) xr15.cells xr15.slots s₁ (entryFrame m #[(.ref b791_833)] 1)
  refine Go.cast (ef_ArrayList_Itr_hasNext_4 m b791_833) ?_
  show Go p e below s _ _ _ s₁ (mkF m 0 #[.val (.ref b791_833)] [])
  refine Go.step (fun _ k => XS.aloadN X0.here hx rfl (hb hby d17_0) rfl rfl k) ?_
  show Go p e below s _ _ _ s₁ (mkF m 1 #[.val (.ref b791_833)] [(.ref b791_833)])
  obtain ⟨T912, X912, e912, st912⟩ := getF X0 hx hZ hown (host := "") (Or.inl (tw155 hw)) Via.refl e0 F_cursor_b791_833 (g := (mkF m 1 #[.val (.ref b791_833)] [(.ref b791_833)])) rfl rfl (hb hby d17_1)
  refine Go.step (fun _ k => st912 _ (XS.aloadN X912.here hx rfl (hb hby d17_4) rfl rfl k)) ?_
  show Go p e below s _ _ _ T912 (mkF m 5 #[.val (.ref b791_833)] [(.ref b791_833), (.int (1 : Int32))])
  obtain ⟨T913, X913, e913, st913⟩ := getF X912 hx hZ hown (host := "") (Or.inl (tw139 hw)) Via.refl e912 F_this_0_b791_833 (g := (mkF m 5 #[.val (.ref b791_833)] [(.ref b791_833), (.int (1 : Int32))])) rfl rfl (hb hby d17_5)
  refine Go.step (fun _ k => st913 _ k) ?_
  show Go p e below s _ _ _ T913 (mkF m 8 #[.val (.ref b791_833)] [(.ref b228), (.int (1 : Int32))])
  obtain ⟨T914, X914, e914, st914⟩ := getF X913 hx hZ hown (Or.inr (tw157 hw)) Via.refl e913 F_size_b228 (g := (mkF m 8 #[.val (.ref b791_833)] [(.ref b228), (.int (1 : Int32))])) rfl rfl (hb hby d17_8)
  refine Go.step (fun _ k => st914 _ (XS.icmpNo X914.here hx rfl (hb hby d17_11) rfl (feq (by decide)).1 (XS.iconst X914.here hx rfl (hb hby d17_14) (XS.goto X914.here hx rfl (pc0 := 15) (pc' := 19) rfl (hb hby d17_15) (by decide) (by decide) k)))) ?_
  show Go p e below s _ _ _ T914 (mkF m 19 #[.val (.ref b791_833)] [(.int (1 : Int32))])
  exact Go.retN X914 hx hlk (t := .boolean) Bd.returns (by simp) (hb hby d17_19) e914 ⟨rfl, N0, rfl⟩ (by decide) (by decide)

theorem ef_ArrayList_Itr_next_2 (m : MethodId) (x0 : Addr) : entryFrame m #[(.ref x0)] 3 = mkF m 0 #[.val (.ref x0), .unset, .unset] [] := by first | (simp [entryFrame, mkF, argsToLocals, Value.category]; done) | rfl
def Q_ArrayList_Itr_next_2 (Z : State) (b791_833 : Addr) (b228 : Addr) (b425_439_444_467_720 : Addr) (k425_439_444_467_720 : ClassId) (b699 : Addr) (b722 : Addr) (h0 : Heap) (n0 : Nat) (v : Option Value) (h : Heap) (L : List Loc) : Prop := v = some (.ref b722) ∧ Fr n0 L ∧ Keep h0 h [b791_833] ∧ Fld Z h b791_833 xs24 "this$0" xs29 (.ref b228) ∧ Fld Z h b791_833 xs24 xs44 "I" (.int (2 : Int32)) ∧ Fld Z h b791_833 xs24 "cursor" "I" (.int (2 : Int32)) ∧ Fld Z h b791_833 xs24 "lastRet" "I" (.int (1 : Int32))
set_option maxRecDepth 65536 in
set_option maxHeartbeats 40000000 in
theorem rm_ArrayList_Itr_next_2 (l : Launch) (Z : State) (a0 : Array Value) (hw : ∀ d ∈ tables_1, d.before a0 Z = true) (ws : List Jvm.Cond) (b791_833 : Addr) (b228 : Addr) (b425_439_444_467_720 : Addr) (k425_439_444_467_720 : ClassId) (b699 : Addr) (b722 : Addr) (h0 : Heap) (n0 : Nat) (Z0 : n0 ≤ h0.size) (E_b791_833 : Exa Z h0 b791_833 xs24) (F_this_0_b791_833 : Fld Z h0 b791_833 xs24 "this$0" xs29 (.ref b228)) (F_modCount_b228 : Fld Z h0 b228 xs26 "modCount" "I" (.int (2 : Int32))) (F_expectedModCount_b791_833 : Fld Z h0 b791_833 xs24 xs44 "I" (.int (2 : Int32))) (F_cursor_b791_833 : Fld Z h0 b791_833 xs24 "cursor" "I" (.int (1 : Int32))) (F_size_b228 : Fld Z h0 b228 xs37 "size" "I" (.int (2 : Int32))) (F_elementData_b228 : Fld Z h0 b228 xs37 "elementData" xs35 (.ref b425_439_444_467_720)) (V_b425_439_444_467_720 : Arv Z h0 b425_439_444_467_720 k425_439_444_467_720 (.object xs41) (10 : Int32) [(.ref b699), (.ref b722), .null, .null, .null, .null, .null, .null, .null, .null] .null) (g_b791_833 : n0 ≤ b791_833) (F_lastRet_b791_833 : Fld Z h0 b791_833 xs24 "lastRet" "I" (.int (0 : Int32))) (ne_b425_439_444_467_720_b791_833 : b425_439_444_467_720 ≠ b791_833) :
    MetFree l xm23 (head1 (Jvm.Cond.code xm23 jdk_49_method_3_code 3 (some (.object xs41)) :: ws) xr4) (fun a U => a = #[(.ref b791_833)] ∧ Z.Warmed39 U.vm ∧ U.heap = h0) (fun _ _ _ _ _ => True) (fun _ U o U' => ∃ v L, o = .returned v ∧ Q_ArrayList_Itr_next_2 Z b791_833 b228 b425_439_444_467_720 k425_439_444_467_720 b699 b722 h0 n0 v U'.heap L ∧ FrameEnd U o U' L xr4.cells xr4.slots) := by
  refine MetFree.of_bodySF (plainFor_of_name pn_12) hisR ?_
  intro p e s m args below meth c s₁ Bd hml0 hP hK
  obtain ⟨rfl, hZ, hh⟩ := hP
  have hx := Bd.exec
  have hby := Bd.bytes
  have hlk : meth.locks = false := BodyLoose.notSynchronized Bd
  have hml : c.maxLocals = 3 := hml0
  have hown : s.vm.findClass xs24 = some m.cls := findClass_of_methodNamed Bd.named
  have hnm := (name_of_methodNamed Bd.named Bd.method).1
  have X0 : Stand p l e xr4 s m #[(.ref b791_833)] below meth c s₁ [] 0 0 := Stand.of_body Bd
  have e0 : s₁.heap = h0 := by rw [← hh, Bd.state]; rfl
  have N0 := Fr.nil n0
  show Go p e below s (Q_ArrayList_Itr_next_2 Z b791_833 b228 b425_439_444_467_720 k425_439_444_467_720 b699 b722 h0 n0) xr4.cells xr4.slots s₁ (entryFrame m #[(.ref b791_833)] 3)
  refine Go.cast (ef_ArrayList_Itr_next_2 m b791_833) ?_
  show Go p e below s _ _ _ s₁ (mkF m 0 #[.val (.ref b791_833), .unset, .unset] [])
  refine Go.step (fun _ k => XS.aloadN X0.here hx rfl (hb hby d24_0) rfl rfl k) ?_
  show Go p e below s _ _ _ s₁ (mkF m 1 #[.val (.ref b791_833), .unset, .unset] [(.ref b791_833)])
  obtain ⟨cq924, kq924, q924a, q924b, q924c⟩ := isOf hZ e0 E_b791_833
  obtain ⟨_, _, ⟨T924, L924, k924, n924⟩, -, X924, ⟨Lc924, hQ924, l924, y924, z924⟩, st924⟩ := X0.virtualBack hx (y := xm29) (z := xm29) hown (mvT hZ (tw224 hw)) (mvT hZ (tw225 hw)) (notFace_of_selects (args := #[]) (mvT hZ (tw227 hw))) (mvT hZ (tw227 hw)) (mvT hZ (tw226 hw)) (by decide) (backOf (W := 0) (rm_ArrayList_Itr_checkForComodification_1 l Z a0 hw [] b791_833 b228 h0 n0 Z0 F_this_0_b791_833 F_modCount_b228 F_expectedModCount_b791_833) hZ (tw228 hw) (tw134 hw) (by decide) (by decide)) q924a q924c (g := (mkF m 1 #[.val (.ref b791_833), .unset, .unset] [(.ref b791_833)])) rfl (by rw [hml]; rfl) (Steps.refl _) (argsL := []) (rest := []) (lenOf pd_7 rfl) rfl (by show 2 * 0 + _ ≤ _; exact Nat.le_of_eq rfl) (hb hby d24_1) (fun _ _ => ⟨rfl, e0, (by decide : 0 + 0 ≤ _), (by decide : 0 + 0 ≤ _)⟩)
  dsimp only [Pt.U, Pt.locs, Pt.cells, Pt.slots] at X924 l924 y924 z924 st924 hQ924
  subst l924 y924 z924
  obtain ⟨rfl, N924q, eq924⟩ := hQ924
  have N925 := Fr.app N0 N924q
  refine Go.step (fun _ k => st924.trans (XS.aloadN X924.here hx rfl (hb hby d24_4) rfl rfl k)) ?_
  show Go p e below s _ _ _ T924 (mkF m 5 #[.val (.ref b791_833), .unset, .unset] [(.ref b791_833)])
  obtain ⟨T926, X926, e926, st926⟩ := getF X924 hx hZ hown (host := "") (Or.inl (tw155 hw)) Via.refl eq924 F_cursor_b791_833 (g := (mkF m 5 #[.val (.ref b791_833), .unset, .unset] [(.ref b791_833)])) rfl rfl (hb hby d24_5)
  refine Go.step (fun _ k => st926 _ (XS.istoreN X926.here hx rfl (hb hby d24_8) rfl (l' := #[.val (.ref b791_833), .val (.int (1 : Int32)), .unset]) rfl (XS.iloadN X926.here hx rfl (hb hby d24_9) rfl (XS.aloadN X926.here hx rfl (hb hby d24_10) rfl rfl k)))) ?_
  show Go p e below s _ _ _ T926 (mkF m 11 #[.val (.ref b791_833), .val (.int (1 : Int32)), .unset] [(.ref b791_833), (.int (1 : Int32))])
  obtain ⟨T927, X927, e927, st927⟩ := getF X926 hx hZ hown (host := "") (Or.inl (tw139 hw)) Via.refl e926 F_this_0_b791_833 (g := (mkF m 11 #[.val (.ref b791_833), .val (.int (1 : Int32)), .unset] [(.ref b791_833), (.int (1 : Int32))])) rfl rfl (hb hby d24_11)
  refine Go.step (fun _ k => st927 _ k) ?_
  show Go p e below s _ _ _ T927 (mkF m 14 #[.val (.ref b791_833), .val (.int (1 : Int32)), .unset] [(.ref b228), (.int (1 : Int32))])
  obtain ⟨T928, X928, e928, st928⟩ := getF X927 hx hZ hown (Or.inr (tw157 hw)) Via.refl e927 F_size_b228 (g := (mkF m 14 #[.val (.ref b791_833), .val (.int (1 : Int32)), .unset] [(.ref b228), (.int (1 : Int32))])) rfl rfl (hb hby d24_14)
  refine Go.step (fun _ k => st928 _ (XS.icmpYes X928.here hx rfl (pc0 := 17) (pc' := 28) rfl (hb hby d24_17) rfl (tlt (by decide)).1 (by decide) (by decide) (XS.aloadN X928.here hx rfl (hb hby d24_28) rfl rfl k))) ?_
  show Go p e below s _ _ _ T928 (mkF m 29 #[.val (.ref b791_833), .val (.int (1 : Int32)), .unset] [(.ref b791_833)])
  obtain ⟨T929, X929, e929, st929⟩ := getF X928 hx hZ hown (host := "") (Or.inl (tw139 hw)) Via.refl e928 F_this_0_b791_833 (g := (mkF m 29 #[.val (.ref b791_833), .val (.int (1 : Int32)), .unset] [(.ref b791_833)])) rfl rfl (hb hby d24_29)
  refine Go.step (fun _ k => st929 _ k) ?_
  show Go p e below s _ _ _ T929 (mkF m 32 #[.val (.ref b791_833), .val (.int (1 : Int32)), .unset] [(.ref b228)])
  obtain ⟨T930, X930, e930, st930⟩ := getF X929 hx hZ hown (host := "") (Or.inl (tw229 hw)) Via.refl e929 F_elementData_b228 (g := (mkF m 32 #[.val (.ref b791_833), .val (.int (1 : Int32)), .unset] [(.ref b228)])) rfl rfl (hb hby d24_32)
  refine Go.step (fun _ k => st930 _ (XS.astoreN X930.here hx rfl (hb hby d24_35) rfl rfl (l' := #[.val (.ref b791_833), .val (.int (1 : Int32)), .val (.ref b425_439_444_467_720)]) rfl (XS.iloadN X930.here hx rfl (hb hby d24_36) rfl (XS.aloadN X930.here hx rfl (hb hby d24_37) rfl rfl k)))) ?_
  show Go p e below s _ _ _ T930 (mkF m 38 #[.val (.ref b791_833), .val (.int (1 : Int32)), .val (.ref b425_439_444_467_720)] [(.ref b425_439_444_467_720), (.int (1 : Int32))])
  obtain ⟨cl931, Ar931, -, Sz931, Ng931, -, -⟩ := id V_b425_439_444_467_720
  have aln931 := X930.arraylength hx (by rw [e930]; exact Ar931.1) (State.isArrayOf_alike hZ.alike Ar931.2.1) (g := (mkF m 38 #[.val (.ref b791_833), .val (.int (1 : Int32)), .val (.ref b425_439_444_467_720)] [(.ref b425_439_444_467_720), (.int (1 : Int32))])) rfl rfl (hb hby d24_38)
  rw [len_of Sz931 Ng931] at aln931
  refine Go.step (fun _ k => aln931 _ (XS.icmpYes X930.here hx rfl (pc0 := 39) (pc' := 50) rfl (hb hby d24_39) rfl (tlt (by decide)).1 (by decide) (by decide) (XS.aloadN X930.here hx rfl (hb hby d24_50) rfl rfl (XS.iloadN X930.here hx rfl (hb hby d24_51) rfl (XS.iconst X930.here hx rfl (hb hby d24_52) (XS.iadd X930.here hx rfl (hb hby d24_53) rfl k)))))) ?_
  show Go p e below s _ _ _ T930 (mkF m 54 #[.val (.ref b791_833), .val (.int (1 : Int32)), .val (.ref b425_439_444_467_720)] [(.int (2 : Int32)), (.ref b791_833)])
  obtain ⟨T932, h932, X932, e932, W932, st932⟩ := putF X930 hx hZ hown (host := "") (Or.inl (tw155 hw)) Via.refl e930 F_cursor_b791_833 E_b791_833 (Or.inl (tw156 hw)) (tw133 hw) (ty := .int) (by decide) rfl rfl (g := (mkF m 54 #[.val (.ref b791_833), .val (.int (1 : Int32)), .val (.ref b425_439_444_467_720)] [(.int (2 : Int32)), (.ref b791_833)])) rfl rfl (hb hby d24_54)
  have f933 := F_cursor_b791_833.same W932
  have N934 := Fr.snoc X932 N925 g_b791_833
  refine Go.step (fun _ k => st932 _ (XS.aloadN X932.here hx rfl (hb hby d24_57) rfl rfl (XS.aloadN X932.here hx rfl (hb hby d24_58) rfl rfl (XS.iloadN X932.here hx rfl (hb hby d24_59) rfl (XS.dupX1 X932.here hx rfl (hb hby d24_60) rfl rfl rfl k))))) ?_
  show Go p e below s _ _ _ T932 (mkF m 61 #[.val (.ref b791_833), .val (.int (1 : Int32)), .val (.ref b425_439_444_467_720)] [(.int (1 : Int32)), (.ref b791_833), (.int (1 : Int32)), (.ref b425_439_444_467_720)])
  have f935 := (F_lastRet_b791_833.other W932 (Or.inr (slot_ne (Or.inl (tw143 hw)) (Or.inl (tw156 hw)) (by decide) (t := .int) (t' := .int) (by decide) (by decide))))
  have f936 := (E_b791_833.wr W932)
  obtain ⟨T937, h937, X937, e937, W937, st937⟩ := putF X932 hx hZ hown (host := "") (Or.inl (tw142 hw)) Via.refl e932 f935 f936 (Or.inl (tw143 hw)) (tw133 hw) (ty := .int) (by decide) rfl rfl (g := (mkF m 61 #[.val (.ref b791_833), .val (.int (1 : Int32)), .val (.ref b425_439_444_467_720)] [(.int (1 : Int32)), (.ref b791_833), (.int (1 : Int32)), (.ref b425_439_444_467_720)])) rfl rfl (hb hby d24_61)
  have f938 := f935.same W937
  have N939 := Fr.snoc X937 N934 g_b791_833
  refine Go.step (fun _ k => st937 _ k) ?_
  show Go p e below s _ _ _ T937 (mkF m 64 #[.val (.ref b791_833), .val (.int (1 : Int32)), .val (.ref b425_439_444_467_720)] [(.int (1 : Int32)), (.ref b425_439_444_467_720)])
  have f940 := ((V_b425_439_444_467_720.other W932 ne_b425_439_444_467_720_b791_833).other W937 ne_b425_439_444_467_720_b791_833)
  obtain ⟨cl941, Ar941, -, Sz941, Ng941, Hs941, Ft941⟩ := id f940
  have in941 : ¬ ((1 : Int32) < 0 ∨ cl941.slots.size ≤ ((1 : Int32)).toNatClampNeg) := (inb_of Sz941 ⟨by decide, by decide⟩)
  have at941 : cl941.slots[((1 : Int32)).toNatClampNeg]? = some (.ref b722) := Hs941.at in941 rfl
  refine Go.step (fun _ k => X937.aaload hx (j := (1 : Int32)) (v := (.ref b722)) (by rw [e937]; exact Ar941.1) (State.isArrayOf_alike hZ.alike Ar941.2.1) rfl Ar941.2.2 in941 at941 (g := (mkF m 64 #[.val (.ref b791_833), .val (.int (1 : Int32)), .val (.ref b425_439_444_467_720)] [(.int (1 : Int32)), (.ref b425_439_444_467_720)])) rfl rfl (hb hby d24_64) _ k) ?_
  show Go p e below s _ _ _ T937 (mkF m 65 #[.val (.ref b791_833), .val (.int (1 : Int32)), .val (.ref b425_439_444_467_720)] [(.ref b722)])
  have f942 := (((Keep.refl h0 [b791_833]).wr W932 (Or.inl (List.mem_of_getElem? (i := 0) rfl))).wr W937 (Or.inl (List.mem_of_getElem? (i := 0) rfl)))
  have f943 := ((F_this_0_b791_833.other W932 (Or.inr (slot_ne (Or.inr (tw140 hw)) (Or.inl (tw156 hw)) (by decide) (t := (.object xs37)) (t' := .int) (by decide) (by decide)))).other W937 (Or.inr (slot_ne (Or.inr (tw140 hw)) (Or.inl (tw143 hw)) (by decide) (t := (.object xs37)) (t' := .int) (by decide) (by decide))))
  have f944 := ((F_expectedModCount_b791_833.other W932 (Or.inr (slot_ne (Or.inl (tw147 hw)) (Or.inl (tw156 hw)) (by decide) (t := .int) (t' := .int) (by decide) (by decide)))).other W937 (Or.inr (slot_ne (Or.inl (tw147 hw)) (Or.inl (tw143 hw)) (by decide) (t := .int) (t' := .int) (by decide) (by decide))))
  have f945 := (f933.other W937 (Or.inr (slot_ne (Or.inl (tw156 hw)) (Or.inl (tw143 hw)) (by decide) (t := .int) (t' := .int) (by decide) (by decide))))
  have f946 := (Nat.le_trans (Nat.le_trans (Nat.le_refl _) (Keep.of_wr W932).1) (Keep.of_wr W937).1)
  exact Go.retA X937 hx hlk Bd.returns rfl rfl (hb hby d24_65) e937 ⟨rfl, N939, f942, f943, f944, f945, f938⟩ (by decide) (by decide)

theorem ef_ArrayList_Itr_hasNext_5 (m : MethodId) (x0 : Addr) : entryFrame m #[(.ref x0)] 1 = mkF m 0 #[.val (.ref x0)] [] := by first | (simp [entryFrame, mkF, argsToLocals, Value.category]; done) | rfl
def Q_ArrayList_Itr_hasNext_5 (Z : State) (b791_833 : Addr) (b228 : Addr) (h0 : Heap) (n0 : Nat) (v : Option Value) (h : Heap) (L : List Loc) : Prop := v = some (.int (0 : Int32)) ∧ Fr n0 L ∧ h = h0
set_option maxRecDepth 65536 in
set_option maxHeartbeats 40000000 in
theorem rm_ArrayList_Itr_hasNext_5 (l : Launch) (Z : State) (a0 : Array Value) (hw : ∀ d ∈ tables_1, d.before a0 Z = true) (ws : List Jvm.Cond) (b791_833 : Addr) (b228 : Addr) (h0 : Heap) (n0 : Nat) (Z0 : n0 ≤ h0.size) (F_cursor_b791_833 : Fld Z h0 b791_833 xs24 "cursor" "I" (.int (2 : Int32))) (F_this_0_b791_833 : Fld Z h0 b791_833 xs24 "this$0" xs29 (.ref b228)) (F_size_b228 : Fld Z h0 b228 xs37 "size" "I" (.int (2 : Int32))) :
    MetFree l xm5 (head1 (Jvm.Cond.code xm5 jdk_49_method_2_code 1 (some .boolean) :: ws) xr15) (fun a U => a = #[(.ref b791_833)] ∧ Z.Warmed39 U.vm ∧ U.heap = h0) (fun _ _ _ _ _ => True) (fun _ U o U' => ∃ v L, o = .returned v ∧ Q_ArrayList_Itr_hasNext_5 Z b791_833 b228 h0 n0 v U'.heap L ∧ FrameEnd U o U' L xr15.cells xr15.slots) := by
  refine MetFree.of_bodySF (plainFor_of_name pn_12) hisR ?_
  intro p e s m args below meth c s₁ Bd hml0 hP hK
  obtain ⟨rfl, hZ, hh⟩ := hP
  have hx := Bd.exec
  have hby := Bd.bytes
  have hlk : meth.locks = false := BodyLoose.notSynchronized Bd
  have hml : c.maxLocals = 1 := hml0
  have hown : s.vm.findClass xs24 = some m.cls := findClass_of_methodNamed Bd.named
  have hnm := (name_of_methodNamed Bd.named Bd.method).1
  have X0 : Stand p l e xr15 s m #[(.ref b791_833)] below meth c s₁ [] 0 0 := Stand.of_body Bd
  have e0 : s₁.heap = h0 := by rw [← hh, Bd.state]; rfl
  have N0 := Fr.nil n0
  show Go p e below s (Q_ArrayList_Itr_hasNext_5 Z b791_833 b228 h0 n0) xr15.cells xr15.slots s₁ (entryFrame m #[(.ref b791_833)] 1)
  refine Go.cast (ef_ArrayList_Itr_hasNext_5 m b791_833) ?_
  show Go p e below s _ _ _ s₁ (mkF m 0 #[.val (.ref b791_833)] [])
  refine Go.step (fun _ k => XS.aloadN X0.here hx rfl (hb hby d17_0) rfl rfl k) ?_
  show Go p e below s _ _ _ s₁ (mkF m 1 #[.val (.ref b791_833)] [(.ref b791_833)])
  obtain ⟨T985, X985, e985, st985⟩ := getF X0 hx hZ hown (host := "") (Or.inl (tw155 hw)) Via.refl e0 F_cursor_b791_833 (g := (mkF m 1 #[.val (.ref b791_833)] [(.ref b791_833)])) rfl rfl (hb hby d17_1)
  refine Go.step (fun _ k => st985 _ (XS.aloadN X985.here hx rfl (hb hby d17_4) rfl rfl k)) ?_
  show Go p e below s _ _ _ T985 (mkF m 5 #[.val (.ref b791_833)] [(.ref b791_833), (.int (2 : Int32))])
  obtain ⟨T986, X986, e986, st986⟩ := getF X985 hx hZ hown (host := "") (Or.inl (tw139 hw)) Via.refl e985 F_this_0_b791_833 (g := (mkF m 5 #[.val (.ref b791_833)] [(.ref b791_833), (.int (2 : Int32))])) rfl rfl (hb hby d17_5)
  refine Go.step (fun _ k => st986 _ k) ?_
  show Go p e below s _ _ _ T986 (mkF m 8 #[.val (.ref b791_833)] [(.ref b228), (.int (2 : Int32))])
  obtain ⟨T987, X987, e987, st987⟩ := getF X986 hx hZ hown (Or.inr (tw157 hw)) Via.refl e986 F_size_b228 (g := (mkF m 8 #[.val (.ref b791_833)] [(.ref b228), (.int (2 : Int32))])) rfl rfl (hb hby d17_8)
  refine Go.step (fun _ k => st987 _ (XS.icmpYes X987.here hx rfl (pc0 := 11) (pc' := 18) rfl (hb hby d17_11) rfl (teq (by decide)).1 (by decide) (by decide) (XS.iconst X987.here hx rfl (hb hby d17_18) k))) ?_
  show Go p e below s _ _ _ T987 (mkF m 19 #[.val (.ref b791_833)] [(.int (0 : Int32))])
  exact Go.retN X987 hx hlk (t := .boolean) Bd.returns (by simp) (hb hby d17_19) e987 ⟨rfl, N0, rfl⟩ (by decide) (by decide)

theorem ef_Substitution_new_2 (m : MethodId) (x0 : Addr) (x1 : Int32) (x2 : Addr) : entryFrame m #[(.ref x0), (.int x1), (.ref x2)] 5 = mkF m 0 #[.val (.ref x0), .val (.int x1), .val (.ref x2), .unset, .unset] [] := by first | (simp [entryFrame, mkF, argsToLocals, Value.category]; done) | rfl
def Q_Substitution_new_2 (Z : State) (b779 : Addr) (b228 : Addr) (b425_439_444_467_720 : Addr) (k425_439_444_467_720 : ClassId) (b699 : Addr) (b722 : Addr) (u1 : Addr) (i1 : Int32) (t1 : Addr) (u2 : Addr) (i2 : Int32) (t2 : Addr) (h0 : Heap) (n0 : Nat) (v : Option Value) (h : Heap) (L : List Loc) : Prop := ∃ (b782 : Addr) (k782 : ClassId), v = none ∧ Fr n0 L ∧ Keep h0 h [b779] ∧ Fld Z h b779 xs4 "replacements" xs11 (.ref b782) ∧ h0.size ≤ b782 ∧ Arv Z h b782 k782 (.object xs13) (3 : Int32) [(own_at i2 (0 : Int32) (.ref t2) (own_at i1 (0 : Int32) (.ref t1) .null)), (own_at i2 (1 : Int32) (.ref t2) (own_at i1 (1 : Int32) (.ref t1) .null)), (own_at i2 (2 : Int32) (.ref t2) (own_at i1 (2 : Int32) (.ref t1) .null))] .null ∧ Ovr Z k782 xs13
set_option maxRecDepth 65536 in
set_option maxHeartbeats 40000000 in
theorem rm_Substitution_new_2 (l : Launch) (Z : State) (a0 : Array Value) (hw : ∀ d ∈ tables_1, d.before a0 Z = true) (ws : List Jvm.Cond) (b779 : Addr) (b228 : Addr) (b425_439_444_467_720 : Addr) (k425_439_444_467_720 : ClassId) (b699 : Addr) (b722 : Addr) (u1 : Addr) (i1 : Int32) (t1 : Addr) (u2 : Addr) (i2 : Int32) (t2 : Addr) (h0 : Heap) (n0 : Nat) (Z0 : n0 ≤ h0.size) (E_b779 : Exa Z h0 b779 xs4) (F_replacements_b779 : Fld Z h0 b779 xs4 "replacements" xs11 .null) (g_b779 : n0 ≤ b779) (E_b228 : Exa Z h0 b228 xs37) (F_modCount_b228 : Fld Z h0 b228 xs26 "modCount" "I" (.int (2 : Int32))) (ne_b228_b779 : b228 ≠ b779) (F_size_b228 : Fld Z h0 b228 xs37 "size" "I" (.int (2 : Int32))) (F_elementData_b228 : Fld Z h0 b228 xs37 "elementData" xs35 (.ref b425_439_444_467_720)) (V_b425_439_444_467_720 : Arv Z h0 b425_439_444_467_720 k425_439_444_467_720 (.object xs41) (10 : Int32) [(.ref b699), (.ref b722), .null, .null, .null, .null, .null, .null, .null, .null] .null) (ne_b425_439_444_467_720_b779 : b425_439_444_467_720 ≠ b779) (E_b699 : Exa Z h0 b699 xs7) (F_target_b699 : Fld Z h0 b699 xs7 "target" xs8 (.ref u1)) (ne_b699_b779 : b699 ≠ b779) (E_u1 : Exa Z h0 u1 xs9) (F_index_u1 : Fld Z h0 u1 xs9 "index" "I" (.int i1)) (ne_u1_b779 : u1 ≠ b779) (F_value_b699 : Fld Z h0 b699 xs7 "value" xs12 (.ref t1)) (hi1 : i1 = (0 : Int32) ∨ i1 = (1 : Int32) ∨ i1 = (2 : Int32)) (E_t1 : Exa Z h0 t1 xs9) (E_b722 : Exa Z h0 b722 xs7) (F_target_b722 : Fld Z h0 b722 xs7 "target" xs8 (.ref u2)) (ne_b722_b779 : b722 ≠ b779) (E_u2 : Exa Z h0 u2 xs9) (F_index_u2 : Fld Z h0 u2 xs9 "index" "I" (.int i2)) (ne_u2_b779 : u2 ≠ b779) (F_value_b722 : Fld Z h0 b722 xs7 "value" xs12 (.ref t2)) (hi2 : i2 = (0 : Int32) ∨ i2 = (1 : Int32) ∨ i2 = (2 : Int32)) (E_t2 : Exa Z h0 t2 xs9) :
    MetFree l xm18 (head1 (Jvm.Cond.code xm18 prog_108_method_1_code 5 none :: ws) xr13) (fun a U => a = #[(.ref b779), (.int (3 : Int32)), (.ref b228)] ∧ Z.Warmed39 U.vm ∧ U.heap = h0) (fun _ _ _ _ _ => True) (fun _ U o U' => ∃ v L, o = .returned v ∧ Q_Substitution_new_2 Z b779 b228 b425_439_444_467_720 k425_439_444_467_720 b699 b722 u1 i1 t1 u2 i2 t2 h0 n0 v U'.heap L ∧ FrameEnd U o U' L xr13.cells xr13.slots) := by
  refine MetFree.of_bodySF (plainFor_of_name pn_10) hisR ?_
  intro p e s m args below meth c s₁ Bd hml0 hP hK
  obtain ⟨rfl, hZ, hh⟩ := hP
  have hx := Bd.exec
  have hby := Bd.bytes
  have hlk : meth.locks = false := BodyLoose.notSynchronized Bd
  have hml : c.maxLocals = 5 := hml0
  have hown : s.vm.findClass xs4 = some m.cls := findClass_of_methodNamed Bd.named
  have hnm := (name_of_methodNamed Bd.named Bd.method).1
  have X0 : Stand p l e xr13 s m #[(.ref b779), (.int (3 : Int32)), (.ref b228)] below meth c s₁ [] 0 0 := Stand.of_body Bd
  have e0 : s₁.heap = h0 := by rw [← hh, Bd.state]; rfl
  have N0 := Fr.nil n0
  show Go p e below s (Q_Substitution_new_2 Z b779 b228 b425_439_444_467_720 k425_439_444_467_720 b699 b722 u1 i1 t1 u2 i2 t2 h0 n0) xr13.cells xr13.slots s₁ (entryFrame m #[(.ref b779), (.int (3 : Int32)), (.ref b228)] 5)
  refine Go.cast (ef_Substitution_new_2 m b779 (3 : Int32) b228) ?_
  show Go p e below s _ _ _ s₁ (mkF m 0 #[.val (.ref b779), .val (.int (3 : Int32)), .val (.ref b228), .unset, .unset] [])
  refine Go.step (fun _ k => XS.aloadN X0.here hx rfl (hb hby d14_0) rfl rfl k) ?_
  show Go p e below s _ _ _ s₁ (mkF m 1 #[.val (.ref b779), .val (.int (3 : Int32)), .val (.ref b228), .unset, .unset] [(.ref b779)])
  obtain ⟨T781, X781, e781, st781⟩ := initO X0 hx hZ hown (tw120 hw) (tw33 hw) (tw34 hw) e0 (g := (mkF m 1 #[.val (.ref b779), .val (.int (3 : Int32)), .val (.ref b228), .unset, .unset] [(.ref b779)])) rfl (by rw [hml]; rfl) rfl (hb hby d14_1) (by decide) (W := 0) (by show 2 * 0 + _ ≤ _; exact Nat.le_of_eq rfl) (by decide)
  refine Go.step (fun _ k => st781 _ (XS.aloadN X781.here hx rfl (hb hby d14_4) rfl rfl (XS.iloadN X781.here hx rfl (hb hby d14_5) rfl k))) ?_
  show Go p e below s _ _ _ T781 (mkF m 6 #[.val (.ref b779), .val (.int (3 : Int32)), .val (.ref b228), .unset, .unset] [(.int (3 : Int32)), (.ref b779)])
  obtain ⟨T782, h782, k782, X782, e782, E782, A782, O782, st782⟩ := newR X781 hx hZ hown (tw121 hw) (tw122 hw) e781 (g := (mkF m 6 #[.val (.ref b779), .val (.int (3 : Int32)), .val (.ref b228), .unset, .unset] [(.int (3 : Int32)), (.ref b779)])) rfl (hb hby d14_6) rfl (by decide) (cap := 3) (by decide) (by decide) (by decide) (by decide)
  obtain ⟨b782, g782⟩ : ∃ z, z = h0.size := ⟨_, rfl⟩
  rw [← g782] at A782 st782
  have f783 : Arv Z h782 b782 k782 (.object xs13) (3 : Int32) [.null, .null, .null] .null := (Arv.new A782 (by decide)).pad (pad_rep [] .null 3)
  refine Go.step (fun _ k => st782 _ k) ?_
  show Go p e below s _ _ _ T782 (mkF m 9 #[.val (.ref b779), .val (.int (3 : Int32)), .val (.ref b228), .unset, .unset] [(.ref b782), (.ref b779)])
  have f784 := (F_replacements_b779.ext E782)
  have f785 := (E_b779.ext E782)
  obtain ⟨T786, h786, X786, e786, W786, st786⟩ := putF X782 hx hZ hown (host := "") (Or.inl (tw123 hw)) Via.refl e782 f784 f785 (Or.inr ⟨(tw124 hw), rfl, hnm⟩) (tw115 hw) (ty := (.array (.object xs13))) (by decide) rfl rfl (g := (mkF m 9 #[.val (.ref b779), .val (.int (3 : Int32)), .val (.ref b228), .unset, .unset] [(.ref b782), (.ref b779)])) rfl rfl (hb hby d14_9)
  have f789 := f784.same W786
  have N790 := Fr.snoc X786 N0 g_b779
  refine Go.step (fun _ k => st786 _ (XS.aloadN X786.here hx rfl (hb hby d14_12) rfl rfl k)) ?_
  show Go p e below s _ _ _ T786 (mkF m 13 #[.val (.ref b779), .val (.int (3 : Int32)), .val (.ref b228), .unset, .unset] [(.ref b228)])
  have f829 := (Nat.le_trans (Nat.le_trans Z0 E782.1) (Keep.of_wr W786).1)
  have f832 := ((F_modCount_b228.ext E782).other W786 (Or.inl ne_b228_b779))
  have f834 := ((E_b228.ext E782).wr W786)
  obtain ⟨cq833, kq833, q833a, q833b, q833c⟩ := isOf hZ e786 f834
  obtain ⟨_, _, ⟨T833, L833, k833, n833⟩, -, X833, ⟨Lc833, hQ833, l833, y833, z833⟩, st833⟩ := X786.interfaceBack hx (xi := xm2) (y := xm4) hown (mvT hZ (tw125 hw)) (mvT hZ (tw36 hw)) (mvT hZ (tw37 hw)) (mvT hZ (tw126 hw)) (mvT hZ (tw127 hw)) (mvT hZ (tw128 hw)) (mvT hZ (tw129 hw)) (mvT hZ (tw130 hw)) (by decide) (backOf (W := 0) (rm_ArrayList_iterator_2 l Z a0 hw [] b228 h786 n0 f829 f832) hZ (tw131 hw) (tw92 hw) (by decide) (by decide)) q833a q833b q833c (g := (mkF m 13 #[.val (.ref b779), .val (.int (3 : Int32)), .val (.ref b228), .unset, .unset] [(.ref b228)])) rfl (by rw [hml]; rfl) (Steps.refl _) (argsL := []) (rest := []) (lenOf pd_3 rfl) rfl (by show 2 * 0 + _ ≤ _; exact Nat.le_of_eq rfl) (hb hby d14_13) (fun _ _ => ⟨rfl, e786, (by decide : 1 + 1 ≤ _), (by decide : 3 + 4 ≤ _)⟩)
  dsimp only [Pt.U, Pt.locs, Pt.cells, Pt.slots] at X833 l833 y833 z833 st833 hQ833
  subst l833 y833 z833
  obtain ⟨b791_833, rfl, N833q, K833, P833_0, P833_1, P833_2, P833_3, P833_4, P833_5⟩ := hQ833
  have N835 := Fr.app N790 N833q
  refine Go.step (fun _ k => st833.trans (XS.astoreN X833.here hx rfl (hb hby d14_18) rfl rfl (l' := #[.val (.ref b779), .val (.int (3 : Int32)), .val (.ref b228), .val (.ref b791_833), .unset]) rfl (XS.aloadN X833.here hx rfl (hb hby d14_19) rfl rfl k))) ?_
  show Go p e below s _ _ _ T833 (mkF m 20 #[.val (.ref b779), .val (.int (3 : Int32)), .val (.ref b228), .val (.ref b791_833), .unset] [(.ref b791_833)])
  have f839 := (Nat.le_trans f829 K833.1)
  have f840 := (((F_size_b228.ext E782).other W786 (Or.inl ne_b228_b779)).keep K833 nin0)
  obtain ⟨cq841, kq841, q841a, q841b, q841c⟩ := isOf hZ rfl P833_1
  obtain ⟨_, _, ⟨T841, L841, k841, n841⟩, -, X841, ⟨Lc841, hQ841, l841, y841, z841⟩, st841⟩ := X833.interfaceBack hx (xi := xm3) (y := xm5) hown (mvT hZ (tw148 hw)) (mvT hZ (tw71 hw)) (mvT hZ (tw72 hw)) (mvT hZ (tw149 hw)) (mvT hZ (tw150 hw)) (mvT hZ (tw151 hw)) (mvT hZ (tw152 hw)) (mvT hZ (tw153 hw)) (by decide) (backOf (W := 0) (rm_ArrayList_Itr_hasNext_3 l Z a0 hw [] b791_833 b228 T833.heap n0 f839 P833_5 P833_2 f840) hZ (tw154 hw) (tw134 hw) (by decide) (by decide)) q841a q841b q841c (g := (mkF m 20 #[.val (.ref b779), .val (.int (3 : Int32)), .val (.ref b228), .val (.ref b791_833), .unset] [(.ref b791_833)])) rfl (by rw [hml]; rfl) (Steps.refl _) (argsL := []) (rest := []) (lenOf pd_4 rfl) rfl (by show 2 * 0 + _ ≤ _; exact Nat.le_of_eq rfl) (hb hby d14_20) (fun _ _ => ⟨rfl, rfl, (by decide : 2 + 0 ≤ _), (by decide : 7 + 0 ≤ _)⟩)
  dsimp only [Pt.U, Pt.locs, Pt.cells, Pt.slots] at X841 l841 y841 z841 st841 hQ841
  subst l841 y841 z841
  obtain ⟨rfl, N841q, eq841⟩ := hQ841
  have N842 := Fr.app N835 N841q
  refine Go.step (fun _ k => st841.trans (XS.ifNo X841.here hx rfl (hb hby d14_25) rfl ((if0 _ _).trans (feq (by decide)).1) (XS.aloadN X841.here hx rfl (hb hby d14_28) rfl rfl k))) ?_
  show Go p e below s _ _ _ T841 (mkF m 29 #[.val (.ref b779), .val (.int (3 : Int32)), .val (.ref b228), .val (.ref b791_833), .unset] [(.ref b791_833)])
  have g855 := Nat.le_trans f829 P833_0
  have f864 := ((V_b425_439_444_467_720.ext E782).other W786 ne_b425_439_444_467_720_b779)
  have ne865 : b425_439_444_467_720 ≠ b791_833 := Nat.ne_of_lt (Nat.lt_of_lt_of_le f864.lt P833_0)
  have f873 := (f832.keep K833 nin0)
  have f874 := (((F_elementData_b228.ext E782).other W786 (Or.inl ne_b228_b779)).keep K833 nin0)
  have f875 := (((V_b425_439_444_467_720.ext E782).other W786 ne_b425_439_444_467_720_b779).keep K833 nin0)
  obtain ⟨cq876, kq876, q876a, q876b, q876c⟩ := isOf hZ eq841 P833_1
  obtain ⟨_, _, ⟨T876, L876, k876, n876⟩, -, X876, ⟨Lc876, hQ876, l876, y876, z876⟩, st876⟩ := X841.interfaceBack hx (xi := xm26) (y := xm23) hown (mvT hZ (tw216 hw)) (mvT hZ (tw217 hw)) (mvT hZ (tw218 hw)) (mvT hZ (tw219 hw)) (mvT hZ (tw220 hw)) (mvT hZ (tw221 hw)) (mvT hZ (tw222 hw)) (mvT hZ (tw153 hw)) (by decide) (backOf (W := 0) (rm_ArrayList_Itr_next_1 l Z a0 hw [] b791_833 b228 b425_439_444_467_720 k425_439_444_467_720 b699 b722 T833.heap n0 f839 P833_1 P833_2 f873 P833_4 P833_5 f840 f874 f875 g855 P833_3 ne865) hZ (tw223 hw) (tw134 hw) (by decide) (by decide)) q876a q876b q876c (g := (mkF m 29 #[.val (.ref b779), .val (.int (3 : Int32)), .val (.ref b228), .val (.ref b791_833), .unset] [(.ref b791_833)])) rfl (by rw [hml]; rfl) (Steps.refl _) (argsL := []) (rest := []) (lenOf pd_18 rfl) rfl (by show 2 * 0 + _ ≤ _; exact Nat.le_of_eq rfl) (hb hby d14_29) (fun _ _ => ⟨rfl, eq841, (by decide : 2 + 0 ≤ _), (by decide : 7 + 0 ≤ _)⟩)
  dsimp only [Pt.U, Pt.locs, Pt.cells, Pt.slots] at X876 l876 y876 z876 st876 hQ876
  subst l876 y876 z876
  obtain ⟨rfl, N876q, K876, P876_0, P876_1, P876_2, P876_3⟩ := hQ876
  have N877 := Fr.app N842 N876q
  refine Go.step (fun _ k => st876.trans k) ?_
  show Go p e below s _ _ _ T876 (mkF m 34 #[.val (.ref b779), .val (.int (3 : Int32)), .val (.ref b228), .val (.ref b791_833), .unset] [(.ref b699)])
  have f878 := ((((E_b699.ext E782).wr W786).keep K833).keep K876)
  obtain ⟨T879, X879, e879, st879⟩ := castY X876 hx hZ hown (tw230 hw) rfl (Ins.self f878) (g := (mkF m 34 #[.val (.ref b779), .val (.int (3 : Int32)), .val (.ref b228), .val (.ref b791_833), .unset] [(.ref b699)])) rfl rfl (hb hby d14_34)
  refine Go.step (fun _ k => st879 _ (XS.astore X879.here hx rfl (hb hby d14_37) rfl rfl (l' := #[.val (.ref b779), .val (.int (3 : Int32)), .val (.ref b228), .val (.ref b791_833), .val (.ref b699)]) rfl (XS.aloadN X879.here hx rfl (hb hby d14_39) rfl rfl k))) ?_
  show Go p e below s _ _ _ T879 (mkF m 40 #[.val (.ref b779), .val (.int (3 : Int32)), .val (.ref b228), .val (.ref b791_833), .val (.ref b699)] [(.ref b779)])
  have f880 := (f785.wr W786)
  have ne881 : b779 ≠ b791_833 := Nat.ne_of_lt (Nat.lt_of_lt_of_le f880.lt P833_0)
  have f882 := ((f789.keep K833 nin0).keep K876 (ninS ne881 nin0))
  obtain ⟨T883, X883, e883, st883⟩ := getF X879 hx hZ hown (host := "") (Or.inl (tw123 hw)) Via.refl e879 f882 (g := (mkF m 40 #[.val (.ref b779), .val (.int (3 : Int32)), .val (.ref b228), .val (.ref b791_833), .val (.ref b699)] [(.ref b779)])) rfl rfl (hb hby d14_40)
  refine Go.step (fun _ k => st883 _ (XS.aload X883.here hx rfl (hb hby d14_43) rfl rfl k)) ?_
  show Go p e below s _ _ _ T883 (mkF m 45 #[.val (.ref b779), .val (.int (3 : Int32)), .val (.ref b228), .val (.ref b791_833), .val (.ref b699)] [(.ref b699), (.ref b782)])
  have f884 := (Nat.le_trans f839 K876.1)
  have f887 := ((E_b699.ext E782).wr W786)
  have ne888 : b699 ≠ b791_833 := Nat.ne_of_lt (Nat.lt_of_lt_of_le f887.lt P833_0)
  have f889 := ((((F_target_b699.ext E782).other W786 (Or.inl ne_b699_b779)).keep K833 nin0).keep K876 (ninS ne888 nin0))
  obtain ⟨cq890, kq890, q890a, q890b, q890c⟩ := isOf hZ e883 f878
  obtain ⟨_, _, ⟨T890, L890, k890, n890⟩, -, X890, ⟨Lc890, hQ890, l890, y890, z890⟩, st890⟩ := X883.virtualBack hx (y := xm24) (z := xm24) hown (mvT hZ (tw232 hw)) (mvT hZ (tw233 hw)) (notFace_of_selects (args := #[]) (mvT hZ (tw235 hw))) (mvT hZ (tw235 hw)) (mvT hZ (tw234 hw)) (by decide) (backOf (W := 1) (rm_Assignment_target_0 l Z a0 hw [] b699 u1 T876.heap n0 f884 f889) hZ (tw236 hw) (tw175 hw) (by decide) (by decide)) q890a q890c (g := (mkF m 45 #[.val (.ref b779), .val (.int (3 : Int32)), .val (.ref b228), .val (.ref b791_833), .val (.ref b699)] [(.ref b699), (.ref b782)])) rfl (by rw [hml]; rfl) (Steps.refl _) (argsL := []) (rest := [(.ref b782)]) (lenOf pd_19 rfl) rfl (by show 2 * 0 + _ ≤ _; exact Nat.le_of_eq rfl) (hb hby d14_45) (fun _ _ => ⟨rfl, e883, (by decide : 2 + 0 ≤ _), (by decide : 7 + 0 ≤ _)⟩)
  dsimp only [Pt.U, Pt.locs, Pt.cells, Pt.slots] at X890 l890 y890 z890 st890 hQ890
  subst l890 y890 z890
  obtain ⟨rfl, N890q, eq890⟩ := hQ890
  have N891 := Fr.app N877 N890q
  refine Go.step (fun _ k => st890.trans k) ?_
  show Go p e below s _ _ _ T890 (mkF m 48 #[.val (.ref b779), .val (.int (3 : Int32)), .val (.ref b228), .val (.ref b791_833), .val (.ref b699)] [(.ref u1), (.ref b782)])
  have f894 := ((E_u1.ext E782).wr W786)
  have ne895 : u1 ≠ b791_833 := Nat.ne_of_lt (Nat.lt_of_lt_of_le f894.lt P833_0)
  have f896 := ((((F_index_u1.ext E782).other W786 (Or.inl ne_u1_b779)).keep K833 nin0).keep K876 (ninS ne895 nin0))
  have f898 := ((((E_u1.ext E782).wr W786).keep K833).keep K876)
  obtain ⟨cq897, kq897, q897a, q897b, q897c⟩ := isOf hZ eq890 f898
  obtain ⟨_, _, ⟨T897, L897, k897, n897⟩, -, X897, ⟨Lc897, hQ897, l897, y897, z897⟩, st897⟩ := X890.virtualBack hx (y := xm17) (z := xm17) hown (mvT hZ (tw164 hw)) (mvT hZ (tw165 hw)) (notFace_of_selects (args := #[]) (mvT hZ (tw167 hw))) (mvT hZ (tw167 hw)) (mvT hZ (tw166 hw)) (by decide) (backOf (W := 1) (rm_Variable_index_0 l Z a0 hw [] u1 i1 T876.heap n0 f884 f896) hZ (tw168 hw) (tw4 hw) (by decide) (by decide)) q897a q897c (g := (mkF m 48 #[.val (.ref b779), .val (.int (3 : Int32)), .val (.ref b228), .val (.ref b791_833), .val (.ref b699)] [(.ref u1), (.ref b782)])) rfl (by rw [hml]; rfl) (Steps.refl _) (argsL := []) (rest := [(.ref b782)]) (lenOf pd_1 rfl) rfl (by show 2 * 0 + _ ≤ _; exact Nat.le_of_eq rfl) (hb hby d14_48) (fun _ _ => ⟨rfl, eq890, (by decide : 2 + 0 ≤ _), (by decide : 7 + 0 ≤ _)⟩)
  dsimp only [Pt.U, Pt.locs, Pt.cells, Pt.slots] at X897 l897 y897 z897 st897 hQ897
  subst l897 y897 z897
  obtain ⟨rfl, N897q, eq897⟩ := hQ897
  have N899 := Fr.app N891 N897q
  refine Go.step (fun _ k => st897.trans (XS.aload X897.here hx rfl (hb hby d14_51) rfl rfl k)) ?_
  show Go p e below s _ _ _ T897 (mkF m 53 #[.val (.ref b779), .val (.int (3 : Int32)), .val (.ref b228), .val (.ref b791_833), .val (.ref b699)] [(.ref b699), (.int i1), (.ref b782)])
  have f900 := ((((F_value_b699.ext E782).other W786 (Or.inl ne_b699_b779)).keep K833 nin0).keep K876 (ninS ne888 nin0))
  obtain ⟨cq901, kq901, q901a, q901b, q901c⟩ := isOf hZ eq897 f878
  obtain ⟨_, _, ⟨T901, L901, k901, n901⟩, -, X901, ⟨Lc901, hQ901, l901, y901, z901⟩, st901⟩ := X897.virtualBack hx (y := xm25) (z := xm25) hown (mvT hZ (tw237 hw)) (mvT hZ (tw238 hw)) (notFace_of_selects (args := #[]) (mvT hZ (tw240 hw))) (mvT hZ (tw240 hw)) (mvT hZ (tw239 hw)) (by decide) (backOf (W := 2) (rm_Assignment_value_0 l Z a0 hw [] b699 t1 T876.heap n0 f884 f900) hZ (tw241 hw) (tw175 hw) (by decide) (by decide)) q901a q901c (g := (mkF m 53 #[.val (.ref b779), .val (.int (3 : Int32)), .val (.ref b228), .val (.ref b791_833), .val (.ref b699)] [(.ref b699), (.int i1), (.ref b782)])) rfl (by rw [hml]; rfl) (Steps.refl _) (argsL := []) (rest := [(.int i1), (.ref b782)]) (lenOf pd_20 rfl) rfl (by show 2 * 0 + _ ≤ _; exact Nat.le_of_eq rfl) (hb hby d14_53) (fun _ _ => ⟨rfl, eq897, (by decide : 2 + 0 ≤ _), (by decide : 7 + 0 ≤ _)⟩)
  dsimp only [Pt.U, Pt.locs, Pt.cells, Pt.slots] at X901 l901 y901 z901 st901 hQ901
  subst l901 y901 z901
  obtain ⟨rfl, N901q, eq901⟩ := hQ901
  have N902 := Fr.app N899 N901q
  refine Go.step (fun _ k => st901.trans k) ?_
  show Go p e below s _ _ _ T901 (mkF m 56 #[.val (.ref b779), .val (.int (3 : Int32)), .val (.ref b228), .val (.ref b791_833), .val (.ref b699)] [(.ref t1), (.int i1), (.ref b782)])
  have ne903 : b779 ≠ b782 := Nat.ne_of_lt (Nat.lt_of_lt_of_le E_b779.lt (Nat.le_of_eq g782.symm))
  have f904 := (f783.other W786 (Ne.symm ne903))
  have ne905 : b782 ≠ b791_833 := Nat.ne_of_lt (Nat.lt_of_lt_of_le f904.lt P833_0)
  have f906 := (((f783.other W786 (Ne.symm ne903)).keep K833 nin0).keep K876 (ninS ne905 nin0))
  obtain ⟨cl907, Ar907, qq907, Sz907, Ng907, Hs907, Ft907⟩ := id f906
  have in907 : ¬ (i1 < 0 ∨ cl907.slots.size ≤ (i1).toNatClampNeg) := inb_of Sz907 (own_in3 hi1)
  have f908 := ((((E_t1.ext E782).wr W786).keep K833).keep K876)
  obtain ⟨T907, h907, X907, e907, W907, st907⟩ := stR X901 hx hZ eq901 Ar907 (j := i1) in907 rfl (Sto.ofV Ar907 qq907 O782 (Ins.of_exa f908 (tw242 hw))) (g := (mkF m 56 #[.val (.ref b779), .val (.int (3 : Int32)), .val (.ref b228), .val (.ref b791_833), .val (.ref b699)] [(.ref t1), (.int i1), (.ref b782)])) rfl rfl (hb hby d14_56)
  have g909 := Nat.le_trans Z0 (Nat.le_of_eq g782.symm)
  have f910 : Arv Z h907 b782 k782 (.object xs13) (3 : Int32) [(own_at i1 (0 : Int32) (.ref t1) .null), (own_at i1 (1 : Int32) (.ref t1) .null), (own_at i1 (2 : Int32) (.ref t1) .null)] .null := by rw [← own_set3 hi1]; exact Arv.set Ar907 qq907 Sz907 Ng907 Hs907 Ft907 rfl W907 _ rfl (own_lt3 hi1)
  have N911 := Fr.snoc X907 N902 g909
  refine Go.step (fun _ k => st907 _ (XS.goto X907.here hx rfl (pc0 := 57) (pc' := 19) rfl (hb hby d14_57) (by decide) (by decide) (XS.aloadN X907.here hx rfl (hb hby d14_19) rfl rfl k))) ?_
  show Go p e below s _ _ _ T907 (mkF m 20 #[.val (.ref b779), .val (.int (3 : Int32)), .val (.ref b228), .val (.ref b791_833), .val (.ref b699)] [(.ref b791_833)])
  have f915 := (Nat.le_trans f884 (Keep.of_wr W907).1)
  have f916 := (P876_2.other W907 (Or.inl (Ne.symm ne905)))
  have f917 := (P876_0.other W907 (Or.inl (Ne.symm ne905)))
  have ne918 : b228 ≠ b791_833 := Nat.ne_of_lt (Nat.lt_of_lt_of_le f834.lt P833_0)
  have ne919 : b228 ≠ b782 := Nat.ne_of_lt (Nat.lt_of_lt_of_le E_b228.lt (Nat.le_of_eq g782.symm))
  have f920 := ((f840.keep K876 (ninS ne918 nin0)).other W907 (Or.inl ne919))
  have f922 := ((P833_1.keep K876).wr W907)
  obtain ⟨cq921, kq921, q921a, q921b, q921c⟩ := isOf hZ e907 f922
  obtain ⟨_, _, ⟨T921, L921, k921, n921⟩, -, X921, ⟨Lc921, hQ921, l921, y921, z921⟩, st921⟩ := X907.interfaceBack hx (xi := xm3) (y := xm5) hown (mvT hZ (tw148 hw)) (mvT hZ (tw71 hw)) (mvT hZ (tw72 hw)) (mvT hZ (tw149 hw)) (mvT hZ (tw150 hw)) (mvT hZ (tw151 hw)) (mvT hZ (tw152 hw)) (mvT hZ (tw153 hw)) (by decide) (backOf (W := 0) (rm_ArrayList_Itr_hasNext_4 l Z a0 hw [] b791_833 b228 h907 n0 f915 f916 f917 f920) hZ (tw154 hw) (tw134 hw) (by decide) (by decide)) q921a q921b q921c (g := (mkF m 20 #[.val (.ref b779), .val (.int (3 : Int32)), .val (.ref b228), .val (.ref b791_833), .val (.ref b699)] [(.ref b791_833)])) rfl (by rw [hml]; rfl) (Steps.refl _) (argsL := []) (rest := []) (lenOf pd_4 rfl) rfl (by show 2 * 0 + _ ≤ _; exact Nat.le_of_eq rfl) (hb hby d14_20) (fun _ _ => ⟨rfl, e907, (by decide : 2 + 0 ≤ _), (by decide : 7 + 0 ≤ _)⟩)
  dsimp only [Pt.U, Pt.locs, Pt.cells, Pt.slots] at X921 l921 y921 z921 st921 hQ921
  subst l921 y921 z921
  obtain ⟨rfl, N921q, eq921⟩ := hQ921
  have N923 := Fr.app N911 N921q
  refine Go.step (fun _ k => st921.trans (XS.ifNo X921.here hx rfl (hb hby d14_25) rfl ((if0 _ _).trans (feq (by decide)).1) (XS.aloadN X921.here hx rfl (hb hby d14_28) rfl rfl k))) ?_
  show Go p e below s _ _ _ T921 (mkF m 29 #[.val (.ref b779), .val (.int (3 : Int32)), .val (.ref b228), .val (.ref b791_833), .val (.ref b699)] [(.ref b791_833)])
  have f947 := ((f873.keep K876 (ninS ne918 nin0)).other W907 (Or.inl ne919))
  have f948 := (P876_1.other W907 (Or.inl (Ne.symm ne905)))
  have f949 := ((f874.keep K876 (ninS ne918 nin0)).other W907 (Or.inl ne919))
  have ne950 : b425_439_444_467_720 ≠ b782 := Nat.ne_of_lt (Nat.lt_of_lt_of_le V_b425_439_444_467_720.lt (Nat.le_of_eq g782.symm))
  have f951 := ((f875.keep K876 (ninS ne865 nin0)).other W907 ne950)
  have f952 := (P876_3.other W907 (Or.inl (Ne.symm ne905)))
  obtain ⟨cq953, kq953, q953a, q953b, q953c⟩ := isOf hZ eq921 f922
  obtain ⟨_, _, ⟨T953, L953, k953, n953⟩, -, X953, ⟨Lc953, hQ953, l953, y953, z953⟩, st953⟩ := X921.interfaceBack hx (xi := xm26) (y := xm23) hown (mvT hZ (tw216 hw)) (mvT hZ (tw217 hw)) (mvT hZ (tw218 hw)) (mvT hZ (tw219 hw)) (mvT hZ (tw220 hw)) (mvT hZ (tw221 hw)) (mvT hZ (tw222 hw)) (mvT hZ (tw153 hw)) (by decide) (backOf (W := 0) (rm_ArrayList_Itr_next_2 l Z a0 hw [] b791_833 b228 b425_439_444_467_720 k425_439_444_467_720 b699 b722 h907 n0 f915 f922 f917 f947 f948 f916 f920 f949 f951 g855 f952 ne865) hZ (tw223 hw) (tw134 hw) (by decide) (by decide)) q953a q953b q953c (g := (mkF m 29 #[.val (.ref b779), .val (.int (3 : Int32)), .val (.ref b228), .val (.ref b791_833), .val (.ref b699)] [(.ref b791_833)])) rfl (by rw [hml]; rfl) (Steps.refl _) (argsL := []) (rest := []) (lenOf pd_18 rfl) rfl (by show 2 * 0 + _ ≤ _; exact Nat.le_of_eq rfl) (hb hby d14_29) (fun _ _ => ⟨rfl, eq921, (by decide : 2 + 0 ≤ _), (by decide : 7 + 0 ≤ _)⟩)
  dsimp only [Pt.U, Pt.locs, Pt.cells, Pt.slots] at X953 l953 y953 z953 st953 hQ953
  subst l953 y953 z953
  obtain ⟨rfl, N953q, K953, P953_0, P953_1, P953_2, P953_3⟩ := hQ953
  have N954 := Fr.app N923 N953q
  refine Go.step (fun _ k => st953.trans k) ?_
  show Go p e below s _ _ _ T953 (mkF m 34 #[.val (.ref b779), .val (.int (3 : Int32)), .val (.ref b228), .val (.ref b791_833), .val (.ref b699)] [(.ref b722)])
  have f955 := ((((((E_b722.ext E782).wr W786).keep K833).keep K876).wr W907).keep K953)
  obtain ⟨T956, X956, e956, st956⟩ := castY X953 hx hZ hown (tw230 hw) rfl (Ins.self f955) (g := (mkF m 34 #[.val (.ref b779), .val (.int (3 : Int32)), .val (.ref b228), .val (.ref b791_833), .val (.ref b699)] [(.ref b722)])) rfl rfl (hb hby d14_34)
  refine Go.step (fun _ k => st956 _ (XS.astore X956.here hx rfl (hb hby d14_37) rfl rfl (l' := #[.val (.ref b779), .val (.int (3 : Int32)), .val (.ref b228), .val (.ref b791_833), .val (.ref b722)]) rfl (XS.aloadN X956.here hx rfl (hb hby d14_39) rfl rfl k))) ?_
  show Go p e below s _ _ _ T956 (mkF m 40 #[.val (.ref b779), .val (.int (3 : Int32)), .val (.ref b228), .val (.ref b791_833), .val (.ref b722)] [(.ref b779)])
  have f957 := ((f882.other W907 (Or.inl ne903)).keep K953 (ninS ne881 nin0))
  obtain ⟨T958, X958, e958, st958⟩ := getF X956 hx hZ hown (host := "") (Or.inl (tw123 hw)) Via.refl e956 f957 (g := (mkF m 40 #[.val (.ref b779), .val (.int (3 : Int32)), .val (.ref b228), .val (.ref b791_833), .val (.ref b722)] [(.ref b779)])) rfl rfl (hb hby d14_40)
  refine Go.step (fun _ k => st958 _ (XS.aload X958.here hx rfl (hb hby d14_43) rfl rfl k)) ?_
  show Go p e below s _ _ _ T958 (mkF m 45 #[.val (.ref b779), .val (.int (3 : Int32)), .val (.ref b228), .val (.ref b791_833), .val (.ref b722)] [(.ref b722), (.ref b782)])
  have f959 := (Nat.le_trans f915 K953.1)
  have f962 := ((E_b722.ext E782).wr W786)
  have ne963 : b722 ≠ b791_833 := Nat.ne_of_lt (Nat.lt_of_lt_of_le f962.lt P833_0)
  have ne964 : b722 ≠ b782 := Nat.ne_of_lt (Nat.lt_of_lt_of_le E_b722.lt (Nat.le_of_eq g782.symm))
  have f965 := ((((((F_target_b722.ext E782).other W786 (Or.inl ne_b722_b779)).keep K833 nin0).keep K876 (ninS ne963 nin0)).other W907 (Or.inl ne964)).keep K953 (ninS ne963 nin0))
  obtain ⟨cq966, kq966, q966a, q966b, q966c⟩ := isOf hZ e958 f955
  obtain ⟨_, _, ⟨T966, L966, k966, n966⟩, -, X966, ⟨Lc966, hQ966, l966, y966, z966⟩, st966⟩ := X958.virtualBack hx (y := xm24) (z := xm24) hown (mvT hZ (tw232 hw)) (mvT hZ (tw233 hw)) (notFace_of_selects (args := #[]) (mvT hZ (tw235 hw))) (mvT hZ (tw235 hw)) (mvT hZ (tw234 hw)) (by decide) (backOf (W := 1) (rm_Assignment_target_0 l Z a0 hw [] b722 u2 T953.heap n0 f959 f965) hZ (tw236 hw) (tw175 hw) (by decide) (by decide)) q966a q966c (g := (mkF m 45 #[.val (.ref b779), .val (.int (3 : Int32)), .val (.ref b228), .val (.ref b791_833), .val (.ref b722)] [(.ref b722), (.ref b782)])) rfl (by rw [hml]; rfl) (Steps.refl _) (argsL := []) (rest := [(.ref b782)]) (lenOf pd_19 rfl) rfl (by show 2 * 0 + _ ≤ _; exact Nat.le_of_eq rfl) (hb hby d14_45) (fun _ _ => ⟨rfl, e958, (by decide : 2 + 0 ≤ _), (by decide : 7 + 0 ≤ _)⟩)
  dsimp only [Pt.U, Pt.locs, Pt.cells, Pt.slots] at X966 l966 y966 z966 st966 hQ966
  subst l966 y966 z966
  obtain ⟨rfl, N966q, eq966⟩ := hQ966
  have N967 := Fr.app N954 N966q
  refine Go.step (fun _ k => st966.trans k) ?_
  show Go p e below s _ _ _ T966 (mkF m 48 #[.val (.ref b779), .val (.int (3 : Int32)), .val (.ref b228), .val (.ref b791_833), .val (.ref b722)] [(.ref u2), (.ref b782)])
  have f970 := ((E_u2.ext E782).wr W786)
  have ne971 : u2 ≠ b791_833 := Nat.ne_of_lt (Nat.lt_of_lt_of_le f970.lt P833_0)
  have ne972 : u2 ≠ b782 := Nat.ne_of_lt (Nat.lt_of_lt_of_le E_u2.lt (Nat.le_of_eq g782.symm))
  have f973 := ((((((F_index_u2.ext E782).other W786 (Or.inl ne_u2_b779)).keep K833 nin0).keep K876 (ninS ne971 nin0)).other W907 (Or.inl ne972)).keep K953 (ninS ne971 nin0))
  have f975 := ((((((E_u2.ext E782).wr W786).keep K833).keep K876).wr W907).keep K953)
  obtain ⟨cq974, kq974, q974a, q974b, q974c⟩ := isOf hZ eq966 f975
  obtain ⟨_, _, ⟨T974, L974, k974, n974⟩, -, X974, ⟨Lc974, hQ974, l974, y974, z974⟩, st974⟩ := X966.virtualBack hx (y := xm17) (z := xm17) hown (mvT hZ (tw164 hw)) (mvT hZ (tw165 hw)) (notFace_of_selects (args := #[]) (mvT hZ (tw167 hw))) (mvT hZ (tw167 hw)) (mvT hZ (tw166 hw)) (by decide) (backOf (W := 1) (rm_Variable_index_0 l Z a0 hw [] u2 i2 T953.heap n0 f959 f973) hZ (tw168 hw) (tw4 hw) (by decide) (by decide)) q974a q974c (g := (mkF m 48 #[.val (.ref b779), .val (.int (3 : Int32)), .val (.ref b228), .val (.ref b791_833), .val (.ref b722)] [(.ref u2), (.ref b782)])) rfl (by rw [hml]; rfl) (Steps.refl _) (argsL := []) (rest := [(.ref b782)]) (lenOf pd_1 rfl) rfl (by show 2 * 0 + _ ≤ _; exact Nat.le_of_eq rfl) (hb hby d14_48) (fun _ _ => ⟨rfl, eq966, (by decide : 2 + 0 ≤ _), (by decide : 7 + 0 ≤ _)⟩)
  dsimp only [Pt.U, Pt.locs, Pt.cells, Pt.slots] at X974 l974 y974 z974 st974 hQ974
  subst l974 y974 z974
  obtain ⟨rfl, N974q, eq974⟩ := hQ974
  have N976 := Fr.app N967 N974q
  refine Go.step (fun _ k => st974.trans (XS.aload X974.here hx rfl (hb hby d14_51) rfl rfl k)) ?_
  show Go p e below s _ _ _ T974 (mkF m 53 #[.val (.ref b779), .val (.int (3 : Int32)), .val (.ref b228), .val (.ref b791_833), .val (.ref b722)] [(.ref b722), (.int i2), (.ref b782)])
  have f977 := ((((((F_value_b722.ext E782).other W786 (Or.inl ne_b722_b779)).keep K833 nin0).keep K876 (ninS ne963 nin0)).other W907 (Or.inl ne964)).keep K953 (ninS ne963 nin0))
  obtain ⟨cq978, kq978, q978a, q978b, q978c⟩ := isOf hZ eq974 f955
  obtain ⟨_, _, ⟨T978, L978, k978, n978⟩, -, X978, ⟨Lc978, hQ978, l978, y978, z978⟩, st978⟩ := X974.virtualBack hx (y := xm25) (z := xm25) hown (mvT hZ (tw237 hw)) (mvT hZ (tw238 hw)) (notFace_of_selects (args := #[]) (mvT hZ (tw240 hw))) (mvT hZ (tw240 hw)) (mvT hZ (tw239 hw)) (by decide) (backOf (W := 2) (rm_Assignment_value_0 l Z a0 hw [] b722 t2 T953.heap n0 f959 f977) hZ (tw241 hw) (tw175 hw) (by decide) (by decide)) q978a q978c (g := (mkF m 53 #[.val (.ref b779), .val (.int (3 : Int32)), .val (.ref b228), .val (.ref b791_833), .val (.ref b722)] [(.ref b722), (.int i2), (.ref b782)])) rfl (by rw [hml]; rfl) (Steps.refl _) (argsL := []) (rest := [(.int i2), (.ref b782)]) (lenOf pd_20 rfl) rfl (by show 2 * 0 + _ ≤ _; exact Nat.le_of_eq rfl) (hb hby d14_53) (fun _ _ => ⟨rfl, eq974, (by decide : 2 + 0 ≤ _), (by decide : 7 + 0 ≤ _)⟩)
  dsimp only [Pt.U, Pt.locs, Pt.cells, Pt.slots] at X978 l978 y978 z978 st978 hQ978
  subst l978 y978 z978
  obtain ⟨rfl, N978q, eq978⟩ := hQ978
  have N979 := Fr.app N976 N978q
  refine Go.step (fun _ k => st978.trans k) ?_
  show Go p e below s _ _ _ T978 (mkF m 56 #[.val (.ref b779), .val (.int (3 : Int32)), .val (.ref b228), .val (.ref b791_833), .val (.ref b722)] [(.ref t2), (.int i2), (.ref b782)])
  have f980 := (f910.keep K953 (ninS ne905 nin0))
  obtain ⟨cl981, Ar981, qq981, Sz981, Ng981, Hs981, Ft981⟩ := id f980
  have in981 : ¬ (i2 < 0 ∨ cl981.slots.size ≤ (i2).toNatClampNeg) := inb_of Sz981 (own_in3 hi2)
  have f982 := ((((((E_t2.ext E782).wr W786).keep K833).keep K876).wr W907).keep K953)
  obtain ⟨T981, h981, X981, e981, W981, st981⟩ := stR X978 hx hZ eq978 Ar981 (j := i2) in981 rfl (Sto.ofV Ar981 qq981 O782 (Ins.of_exa f982 (tw242 hw))) (g := (mkF m 56 #[.val (.ref b779), .val (.int (3 : Int32)), .val (.ref b228), .val (.ref b791_833), .val (.ref b722)] [(.ref t2), (.int i2), (.ref b782)])) rfl rfl (hb hby d14_56)
  have f983 : Arv Z h981 b782 k782 (.object xs13) (3 : Int32) [(own_at i2 (0 : Int32) (.ref t2) (own_at i1 (0 : Int32) (.ref t1) .null)), (own_at i2 (1 : Int32) (.ref t2) (own_at i1 (1 : Int32) (.ref t1) .null)), (own_at i2 (2 : Int32) (.ref t2) (own_at i1 (2 : Int32) (.ref t1) .null))] .null := by rw [← own_set3 hi2]; exact Arv.set Ar981 qq981 Sz981 Ng981 Hs981 Ft981 rfl W981 _ rfl (own_lt3 hi2)
  have N984 := Fr.snoc X981 N979 g909
  refine Go.step (fun _ k => st981 _ (XS.goto X981.here hx rfl (pc0 := 57) (pc' := 19) rfl (hb hby d14_57) (by decide) (by decide) (XS.aloadN X981.here hx rfl (hb hby d14_19) rfl rfl k))) ?_
  show Go p e below s _ _ _ T981 (mkF m 20 #[.val (.ref b779), .val (.int (3 : Int32)), .val (.ref b228), .val (.ref b791_833), .val (.ref b722)] [(.ref b791_833)])
  have f988 := (Nat.le_trans f959 (Keep.of_wr W981).1)
  have f989 := (P953_2.other W981 (Or.inl (Ne.symm ne905)))
  have f990 := (P953_0.other W981 (Or.inl (Ne.symm ne905)))
  have f991 := ((f920.keep K953 (ninS ne918 nin0)).other W981 (Or.inl ne919))
  have f993 := ((f922.keep K953).wr W981)
  obtain ⟨cq992, kq992, q992a, q992b, q992c⟩ := isOf hZ e981 f993
  obtain ⟨_, _, ⟨T992, L992, k992, n992⟩, -, X992, ⟨Lc992, hQ992, l992, y992, z992⟩, st992⟩ := X981.interfaceBack hx (xi := xm3) (y := xm5) hown (mvT hZ (tw148 hw)) (mvT hZ (tw71 hw)) (mvT hZ (tw72 hw)) (mvT hZ (tw149 hw)) (mvT hZ (tw150 hw)) (mvT hZ (tw151 hw)) (mvT hZ (tw152 hw)) (mvT hZ (tw153 hw)) (by decide) (backOf (W := 0) (rm_ArrayList_Itr_hasNext_5 l Z a0 hw [] b791_833 b228 h981 n0 f988 f989 f990 f991) hZ (tw154 hw) (tw134 hw) (by decide) (by decide)) q992a q992b q992c (g := (mkF m 20 #[.val (.ref b779), .val (.int (3 : Int32)), .val (.ref b228), .val (.ref b791_833), .val (.ref b722)] [(.ref b791_833)])) rfl (by rw [hml]; rfl) (Steps.refl _) (argsL := []) (rest := []) (lenOf pd_4 rfl) rfl (by show 2 * 0 + _ ≤ _; exact Nat.le_of_eq rfl) (hb hby d14_20) (fun _ _ => ⟨rfl, e981, (by decide : 2 + 0 ≤ _), (by decide : 7 + 0 ≤ _)⟩)
  dsimp only [Pt.U, Pt.locs, Pt.cells, Pt.slots] at X992 l992 y992 z992 st992 hQ992
  subst l992 y992 z992
  obtain ⟨rfl, N992q, eq992⟩ := hQ992
  have N994 := Fr.app N984 N992q
  refine Go.step (fun _ k => st992.trans (XS.ifYes X992.here hx rfl (pc0 := 25) (pc' := 60) rfl (hb hby d14_25) rfl ((if0 _ _).trans (teq (by decide)).1) (by decide) (by decide) k)) ?_
  show Go p e below s _ _ _ T992 (mkF m 60 #[.val (.ref b779), .val (.int (3 : Int32)), .val (.ref b228), .val (.ref b791_833), .val (.ref b722)] [])
  have f995 := (Nat.le_trans (Nat.le_trans (Nat.le_refl _) E782.1) (Keep.of_wr W786).1)
  have z996 := Nat.le_trans f995 P833_0
  have z997 := Nat.le_trans (Nat.le_refl _) (Nat.le_of_eq g782.symm)
  have f998 := ((((((((Keep.refl h0 [b779]).ext E782).wr W786 (Or.inl (List.mem_of_getElem? (i := 0) rfl))).trans K833 all0).trans K876 (allS (Or.inr z996) all0)).wr W907 (Or.inr z997)).trans K953 (allS (Or.inr z996) all0)).wr W981 (Or.inr z997))
  have f999 := (f957.other W981 (Or.inl ne903))
  have f1000 := (Nat.le_trans (Nat.le_trans (Nat.le_trans (Nat.le_trans (Nat.le_trans (Nat.le_trans (Nat.le_trans (Nat.le_refl _) E782.1) (Keep.of_wr W786).1) K833.1) K876.1) (Keep.of_wr W907).1) K953.1) (Keep.of_wr W981).1)
  exact Go.retV X992 hx hlk Bd.returns (hb hby d14_60) eq992 ⟨b782, k782, rfl, N994, f998, f999, z997, f983, O782⟩ (by decide) (by decide)

theorem ef_law (m : MethodId) (x0 : Int32) (x1 : Int32) (x2 : Int32) (x3 : Int32) (x4 : Int32) (x5 : Int32) : entryFrame m #[(.int x0), (.int x1), (.int x2), (.int x3), (.int x4), (.int x5)] maxLocals = mkF m 0 #[.val (.int x0), .val (.int x1), .val (.int x2), .val (.int x3), .val (.int x4), .val (.int x5), .unset, .unset, .unset, .unset, .unset, .unset, .unset, .unset, .unset, .unset, .unset] [] := by first | (simp [entryFrame, mkF, argsToLocals, Value.category, maxLocals]; done) | rfl
def Q_law (Z : State) (p1 : Int32) (p2 : Int32) (p3 : Int32) (p4 : Int32) (p5 : Int32) (p6 : Int32) (el : Addr) (ela : Addr) (kel : ClassId) (de : Addr) (kde : ClassId) (h0 : Heap) (n0 : Nat) (v : Option Value) (h : Heap) (L : List Loc) : Prop := v = some (.int (1 : Int32)) ∧ Fr n0 L
set_option maxRecDepth 65536 in
set_option maxHeartbeats 40000000 in
theorem rm_law (l : Launch) (Z : State) (a0 : Array Value) (hw : ∀ d ∈ tables_1, d.before a0 Z = true) (ws : List Jvm.Cond) (p1 : Int32) (p2 : Int32) (p3 : Int32) (p4 : Int32) (p5 : Int32) (p6 : Int32) (el : Addr) (ela : Addr) (kel : ClassId) (de : Addr) (kde : ClassId) (h0 : Heap) (n0 : Nat) (Z0 : n0 ≤ h0.size) (O0 : Old Z n0 h0) (Z_S_EMPTY_LIST : Sta Z Z.heap xs20 "EMPTY_LIST" xs16 (.ref el)) (Z_E_el : Exa Z Z.heap el xs18) (Z_F_elements_el : Fld Z Z.heap el xs18 "elements" xs35 (.ref ela)) (Z_A_ela : Arv Z Z.heap ela kel (.object xs41) (0 : Int32) [] .null) (Z_S_DEFAULTCAPACITY_EMPTY_ELEMENTDATA : Sta Z Z.heap xs37 xs19 xs35 (.ref de)) (Z_A_de : Arv Z Z.heap de kde (.object xs41) (0 : Int32) [] .null) :
    MetFree l x (head1 (Jvm.Cond.code x code maxLocals ret :: ws) room_1) (fun a U => a = #[(.int p1), (.int p2), (.int p3), (.int p4), (.int p5), (.int p6)] ∧ Z.Warmed39 U.vm ∧ U.heap = h0) (fun _ _ _ _ _ => True) (fun _ U o U' => ∃ v L, o = .returned v ∧ Q_law Z p1 p2 p3 p4 p5 p6 el ela kel de kde h0 n0 v U'.heap L ∧ ReturnedEndW U o U' L room_1.cells room_1.slots) := by
  refine MetFree.of_bodySF (plainFor_of_name pn_11) hisR ?_
  intro p e s m args below meth c s₁ Bd hml0 hP hK
  obtain ⟨rfl, hZ, hh⟩ := hP
  have hx := Bd.exec
  have hby := Bd.bytes
  have hlk : meth.locks = false := BodyLoose.notSynchronized Bd
  have hml : c.maxLocals = 17 := hml0
  have hown : s.vm.findClass xs3 = some m.cls := findClass_of_methodNamed Bd.named
  have hnm := (name_of_methodNamed Bd.named Bd.method).1
  have X0 : Stand p l e room_1 (s.setVm s.vm) m #[(.int p1), (.int p2), (.int p3), (.int p4), (.int p5), (.int p6)] below meth c s₁ [] 0 0 := Stand.of_body Bd
  have e0 : s₁.heap = h0 := by rw [← hh, Bd.state]; rfl
  have N0 := Fr.nil n0
  have hS0 : s.Since s.vm h0.size := (State.WarmedH.refl s).since _
  show GoW p e below s (Q_law Z p1 p2 p3 p4 p5 p6 el ela kel de kde h0 n0) room_1.cells room_1.slots s₁ (entryFrame m #[(.int p1), (.int p2), (.int p3), (.int p4), (.int p5), (.int p6)] maxLocals)
  refine GoW.cast (ef_law m p1 p2 p3 p4 p5 p6) ?_
  show GoW p e below s _ _ _ s₁ (mkF m 0 #[.val (.int p1), .val (.int p2), .val (.int p3), .val (.int p4), .val (.int p5), .val (.int p6), .unset, .unset, .unset, .unset, .unset, .unset, .unset, .unset, .unset, .unset, .unset] [])
  refine GoW.step (fun _ k => XS.iloadN X0.here hx rfl (hb hby at_0) rfl (X0.ldcInt hx hown (mvT hZ (tw0 hw)) (g := (mkF m 1 #[.val (.int p1), .val (.int p2), .val (.int p3), .val (.int p4), .val (.int p5), .val (.int p6), .unset, .unset, .unset, .unset, .unset, .unset, .unset, .unset, .unset, .unset, .unset] [(.int p1)])) rfl (hb hby at_1) _ (XS.iand X0.here hx rfl (hb hby at_3) rfl (XS.iconst X0.here hx rfl (hb hby at_4) (iremM X0 hx rfl (hb hby at_5) rfl (by decide) k))))) ?_
  show GoW p e below s _ _ _ s₁ (mkF m 6 #[.val (.int p1), .val (.int p2), .val (.int p3), .val (.int p4), .val (.int p5), .val (.int p6), .unset, .unset, .unset, .unset, .unset, .unset, .unset, .unset, .unset, .unset, .unset] [(.int ((p1 &&& (2147483647 : Int32)) % (3 : Int32)))])
  obtain ⟨kk, ekk⟩ : ∃ z, z = ((p1 &&& (2147483647 : Int32)) % (3 : Int32)) := ⟨_, rfl⟩
  have hkk : kk = (0 : Int32) ∨ kk = (1 : Int32) ∨ kk = (2 : Int32) := by rw [ekk]; exact own_mod3 p1
  rw [← ekk]
  refine GoW.step (fun _ k => XS.istore X0.here hx rfl (hb hby at_6) rfl (l' := #[.val (.int p1), .val (.int p2), .val (.int p3), .val (.int p4), .val (.int p5), .val (.int p6), .val (.int kk), .unset, .unset, .unset, .unset, .unset, .unset, .unset, .unset, .unset, .unset]) rfl (XS.iloadN X0.here hx rfl (hb hby at_8) rfl (X0.ldcInt hx hown (mvT hZ (tw0 hw)) (g := (mkF m 9 #[.val (.int p1), .val (.int p2), .val (.int p3), .val (.int p4), .val (.int p5), .val (.int p6), .val (.int kk), .unset, .unset, .unset, .unset, .unset, .unset, .unset, .unset, .unset, .unset] [(.int p2)])) rfl (hb hby at_9) _ (XS.iand X0.here hx rfl (hb hby at_11) rfl (XS.iconst X0.here hx rfl (hb hby at_12) (iremM X0 hx rfl (hb hby at_13) rfl (by decide) k)))))) ?_
  show GoW p e below s _ _ _ s₁ (mkF m 14 #[.val (.int p1), .val (.int p2), .val (.int p3), .val (.int p4), .val (.int p5), .val (.int p6), .val (.int kk), .unset, .unset, .unset, .unset, .unset, .unset, .unset, .unset, .unset, .unset] [(.int ((p2 &&& (2147483647 : Int32)) % (3 : Int32)))])
  obtain ⟨i1, ei1⟩ : ∃ z, z = ((p2 &&& (2147483647 : Int32)) % (3 : Int32)) := ⟨_, rfl⟩
  have hi1 : i1 = (0 : Int32) ∨ i1 = (1 : Int32) ∨ i1 = (2 : Int32) := by rw [ei1]; exact own_mod3 p2
  rw [← ei1]
  refine GoW.step (fun _ k => XS.istore X0.here hx rfl (hb hby at_14) rfl (l' := #[.val (.int p1), .val (.int p2), .val (.int p3), .val (.int p4), .val (.int p5), .val (.int p6), .val (.int kk), .val (.int i1), .unset, .unset, .unset, .unset, .unset, .unset, .unset, .unset, .unset]) rfl (XS.iloadN X0.here hx rfl (hb hby at_16) rfl (X0.ldcInt hx hown (mvT hZ (tw0 hw)) (g := (mkF m 17 #[.val (.int p1), .val (.int p2), .val (.int p3), .val (.int p4), .val (.int p5), .val (.int p6), .val (.int kk), .val (.int i1), .unset, .unset, .unset, .unset, .unset, .unset, .unset, .unset, .unset] [(.int p3)])) rfl (hb hby at_17) _ (XS.iand X0.here hx rfl (hb hby at_19) rfl (XS.iconst X0.here hx rfl (hb hby at_20) (iremM X0 hx rfl (hb hby at_21) rfl (by decide) k)))))) ?_
  show GoW p e below s _ _ _ s₁ (mkF m 22 #[.val (.int p1), .val (.int p2), .val (.int p3), .val (.int p4), .val (.int p5), .val (.int p6), .val (.int kk), .val (.int i1), .unset, .unset, .unset, .unset, .unset, .unset, .unset, .unset, .unset] [(.int ((p3 &&& (2147483647 : Int32)) % (3 : Int32)))])
  obtain ⟨j1, ej1⟩ : ∃ z, z = ((p3 &&& (2147483647 : Int32)) % (3 : Int32)) := ⟨_, rfl⟩
  have hj1 : j1 = (0 : Int32) ∨ j1 = (1 : Int32) ∨ j1 = (2 : Int32) := by rw [ej1]; exact own_mod3 p3
  rw [← ej1]
  refine GoW.step (fun _ k => XS.istore X0.here hx rfl (hb hby at_22) rfl (l' := #[.val (.int p1), .val (.int p2), .val (.int p3), .val (.int p4), .val (.int p5), .val (.int p6), .val (.int kk), .val (.int i1), .val (.int j1), .unset, .unset, .unset, .unset, .unset, .unset, .unset, .unset]) rfl (XS.iloadN X0.here hx rfl (hb hby at_24) rfl (X0.ldcInt hx hown (mvT hZ (tw0 hw)) (g := (mkF m 25 #[.val (.int p1), .val (.int p2), .val (.int p3), .val (.int p4), .val (.int p5), .val (.int p6), .val (.int kk), .val (.int i1), .val (.int j1), .unset, .unset, .unset, .unset, .unset, .unset, .unset, .unset] [(.int p4)])) rfl (hb hby at_25) _ (XS.iand X0.here hx rfl (hb hby at_27) rfl (XS.iconst X0.here hx rfl (hb hby at_28) (iremM X0 hx rfl (hb hby at_29) rfl (by decide) k)))))) ?_
  show GoW p e below s _ _ _ s₁ (mkF m 30 #[.val (.int p1), .val (.int p2), .val (.int p3), .val (.int p4), .val (.int p5), .val (.int p6), .val (.int kk), .val (.int i1), .val (.int j1), .unset, .unset, .unset, .unset, .unset, .unset, .unset, .unset] [(.int ((p4 &&& (2147483647 : Int32)) % (3 : Int32)))])
  obtain ⟨i2, ei2⟩ : ∃ z, z = ((p4 &&& (2147483647 : Int32)) % (3 : Int32)) := ⟨_, rfl⟩
  have hi2 : i2 = (0 : Int32) ∨ i2 = (1 : Int32) ∨ i2 = (2 : Int32) := by rw [ei2]; exact own_mod3 p4
  rw [← ei2]
  refine GoW.step (fun _ k => XS.istore X0.here hx rfl (hb hby at_30) rfl (l' := #[.val (.int p1), .val (.int p2), .val (.int p3), .val (.int p4), .val (.int p5), .val (.int p6), .val (.int kk), .val (.int i1), .val (.int j1), .val (.int i2), .unset, .unset, .unset, .unset, .unset, .unset, .unset]) rfl (XS.iload X0.here hx rfl (hb hby at_32) rfl (X0.ldcInt hx hown (mvT hZ (tw0 hw)) (g := (mkF m 34 #[.val (.int p1), .val (.int p2), .val (.int p3), .val (.int p4), .val (.int p5), .val (.int p6), .val (.int kk), .val (.int i1), .val (.int j1), .val (.int i2), .unset, .unset, .unset, .unset, .unset, .unset, .unset] [(.int p5)])) rfl (hb hby at_34) _ (XS.iand X0.here hx rfl (hb hby at_36) rfl (XS.iconst X0.here hx rfl (hb hby at_37) (iremM X0 hx rfl (hb hby at_38) rfl (by decide) k)))))) ?_
  show GoW p e below s _ _ _ s₁ (mkF m 39 #[.val (.int p1), .val (.int p2), .val (.int p3), .val (.int p4), .val (.int p5), .val (.int p6), .val (.int kk), .val (.int i1), .val (.int j1), .val (.int i2), .unset, .unset, .unset, .unset, .unset, .unset, .unset] [(.int ((p5 &&& (2147483647 : Int32)) % (3 : Int32)))])
  obtain ⟨j2, ej2⟩ : ∃ z, z = ((p5 &&& (2147483647 : Int32)) % (3 : Int32)) := ⟨_, rfl⟩
  have hj2 : j2 = (0 : Int32) ∨ j2 = (1 : Int32) ∨ j2 = (2 : Int32) := by rw [ej2]; exact own_mod3 p5
  rw [← ej2]
  refine GoW.step (fun _ k => XS.istore X0.here hx rfl (hb hby at_39) rfl (l' := #[.val (.int p1), .val (.int p2), .val (.int p3), .val (.int p4), .val (.int p5), .val (.int p6), .val (.int kk), .val (.int i1), .val (.int j1), .val (.int i2), .val (.int j2), .unset, .unset, .unset, .unset, .unset, .unset]) rfl (XS.iconst X0.here hx rfl (hb hby at_41) k)) ?_
  show GoW p e below s _ _ _ s₁ (mkF m 42 #[.val (.int p1), .val (.int p2), .val (.int p3), .val (.int p4), .val (.int p5), .val (.int p6), .val (.int kk), .val (.int i1), .val (.int j1), .val (.int i2), .val (.int j2), .unset, .unset, .unset, .unset, .unset, .unset] [(.int (3 : Int32))])
  obtain ⟨T1, h1, k1, X1, e1, E1, A1, O1, st1⟩ := newR X0 hx hZ hown (tw1 hw) (tw2 hw) e0 (g := (mkF m 42 #[.val (.int p1), .val (.int p2), .val (.int p3), .val (.int p4), .val (.int p5), .val (.int p6), .val (.int kk), .val (.int i1), .val (.int j1), .val (.int i2), .val (.int j2), .unset, .unset, .unset, .unset, .unset, .unset] [(.int (3 : Int32))])) rfl (hb hby at_42) rfl (by decide) (cap := 3) (by decide) (by decide) (by decide) (by decide)
  obtain ⟨b1, g1⟩ : ∃ z, z = h0.size := ⟨_, rfl⟩
  rw [← g1] at A1 st1
  have f2 : Arv Z h1 b1 k1 (.object xs9) (3 : Int32) [.null, .null, .null] .null := (Arv.new A1 (by decide)).pad (pad_rep [] .null 3)
  refine GoW.step (fun _ k => st1 _ (XS.astore X1.here hx rfl (hb hby at_45) rfl rfl (l' := #[.val (.int p1), .val (.int p2), .val (.int p3), .val (.int p4), .val (.int p5), .val (.int p6), .val (.int kk), .val (.int i1), .val (.int j1), .val (.int i2), .val (.int j2), .val (.ref b1), .unset, .unset, .unset, .unset, .unset]) rfl (XS.aload X1.here hx rfl (hb hby at_47) rfl rfl (XS.iconst X1.here hx rfl (hb hby at_49) k)))) ?_
  show GoW p e below s _ _ _ T1 (mkF m 50 #[.val (.int p1), .val (.int p2), .val (.int p3), .val (.int p4), .val (.int p5), .val (.int p6), .val (.int kk), .val (.int i1), .val (.int j1), .val (.int i2), .val (.int j2), .val (.ref b1), .unset, .unset, .unset, .unset, .unset] [(.int (0 : Int32)), (.ref b1)])
  obtain ⟨T3, h3, X3, e3, E3, A3, D3, -, st3⟩ := newO X1 hx hZ hown (tw1 hw) (tw3 hw) (tw4 hw) e1 (g := (mkF m 50 #[.val (.int p1), .val (.int p2), .val (.int p3), .val (.int p4), .val (.int p5), .val (.int p6), .val (.int kk), .val (.int i1), .val (.int j1), .val (.int i2), .val (.int j2), .val (.ref b1), .unset, .unset, .unset, .unset, .unset] [(.int (0 : Int32)), (.ref b1)])) rfl (hb hby at_50) (by decide) (by decide)
  obtain ⟨b3, g3⟩ : ∃ z, z = h1.size := ⟨_, rfl⟩
  rw [← g3] at A3 D3 st3
  have f4 : Fld Z h3 b3 xs6 "depth" "I" (.int (0 : Int32)) := D3 (Or.inr (tw80 hw)) (ty := .int) (by decide)
  have f5 : Fld Z h3 b3 xs9 "name" xs40 .null := D3 (Or.inr (tw82 hw)) (ty := (.object xs43)) (by decide)
  have f6 : Fld Z h3 b3 xs9 xs45 "Z" (.int (0 : Int32)) := D3 (Or.inr (tw84 hw)) (ty := .boolean) (by decide)
  have f7 : Fld Z h3 b3 xs9 "index" "I" (.int (0 : Int32)) := D3 (Or.inr (tw86 hw)) (ty := .int) (by decide)
  refine GoW.step (fun _ k => st3 _ (XS.dup X3.here hx rfl (hb hby at_53) rfl rfl k)) ?_
  show GoW p e below s _ _ _ T3 (mkF m 54 #[.val (.int p1), .val (.int p2), .val (.int p3), .val (.int p4), .val (.int p5), .val (.int p6), .val (.int kk), .val (.int i1), .val (.int j1), .val (.int i2), .val (.int j2), .val (.ref b1), .unset, .unset, .unset, .unset, .unset] [(.ref b3), (.ref b3), (.int (0 : Int32)), (.ref b1)])
  have f9 := (Nat.le_trans (Nat.le_trans (Nat.le_refl _) E1.1) E3.1)
  obtain ⟨a8, T8, h8, k8, X8, e8, E8, hS8, hk8, hZ8, hown8, st8⟩ := ldcS X3 hx hZ hown (tw5 hw) (own_wS hw) e3 hS0 f9 (g := (mkF m 54 #[.val (.int p1), .val (.int p2), .val (.int p3), .val (.int p4), .val (.int p5), .val (.int p6), .val (.int kk), .val (.int i1), .val (.int j1), .val (.int i2), .val (.int j2), .val (.ref b1), .unset, .unset, .unset, .unset, .unset] [(.ref b3), (.ref b3), (.int (0 : Int32)), (.ref b1)])) rfl (hb hby at_54) (n := 4) (by decide) (by decide) (by decide) (by decide)
  refine GoW.step (fun _ k => st8 _ (XS.iload X8.here hx rfl (hb hby at_56) rfl (XS.iconst X8.here hx rfl (hb hby at_58) (XS.iand X8.here hx rfl (hb hby at_59) rfl k)))) ?_
  show GoW p e below s _ _ _ T8 (mkF m 60 #[.val (.int p1), .val (.int p2), .val (.int p3), .val (.int p4), .val (.int p5), .val (.int p6), .val (.int kk), .val (.int i1), .val (.int j1), .val (.int i2), .val (.int j2), .val (.ref b1), .unset, .unset, .unset, .unset, .unset] [(.int (p6 &&& (1 : Int32))), (.ref a8), (.ref b3), (.ref b3), (.int (0 : Int32)), (.ref b1)])
  have J0 : ∀ (f0 : Int32), GoW p e below s (Q_law Z p1 p2 p3 p4 p5 p6 el ela kel de kde h0 n0) room_1.cells room_1.slots T8 (mkF m 68 #[.val (.int p1), .val (.int p2), .val (.int p3), .val (.int p4), .val (.int p5), .val (.int p6), .val (.int kk), .val (.int i1), .val (.int j1), .val (.int i2), .val (.int j2), .val (.ref b1), .unset, .unset, .unset, .unset, .unset] [(.int f0), (.ref a8), (.ref b3), (.ref b3), (.int (0 : Int32)), (.ref b1)]) := by
    intro f0
    refine GoW.step (fun _ k => XS.iconst X8.here hx rfl (hb hby at_68) k) ?_
    show GoW p e below s _ _ _ T8 (mkF m 69 #[.val (.int p1), .val (.int p2), .val (.int p3), .val (.int p4), .val (.int p5), .val (.int p6), .val (.int kk), .val (.int i1), .val (.int j1), .val (.int i2), .val (.int j2), .val (.ref b1), .unset, .unset, .unset, .unset, .unset] [(.int (0 : Int32)), (.int f0), (.ref a8), (.ref b3), (.ref b3), (.int (0 : Int32)), (.ref b1)])
    have f66 := (Nat.le_trans Z0 E1.1)
    have g67 := Nat.le_trans f66 (Nat.le_of_eq g3.symm)
    have f100 := (((O0.ext E1).ext E3).ext E8)
    have f101 := (Nat.le_trans (Nat.le_trans f66 E3.1) E8.1)
    have f102 := (A3.ext E8)
    have f103 := (f4.ext E8)
    have f104 := (f7.ext E8)
    have f105 := (f6.ext E8)
    have f106 := (f5.ext E8)
    obtain ⟨_, _, ⟨T107, L107, k107, n107⟩, -, X107, ⟨Lc107, hQ107, l107, y107, z107⟩, st107⟩ := X8.specialBack hx (y := xm16) rfl hown8 (mvT hZ8 (tw13 hw)) (mvT hZ8 (tw14 hw)) (mvT hZ8 (tw15 hw)) (by decide) (backOf (W := 3) (rm_Variable_new_0 l Z a0 hw [] b3 a8 f0 el ela kel h8 n0 f101 Z_S_EMPTY_LIST f100 Z_E_el Z_F_elements_el Z_A_ela f102 f103 g67 f104 f105 f106) hZ8 (tw15 hw) (tw4 hw) (by decide) (by decide)) (g := (mkF m 69 #[.val (.int p1), .val (.int p2), .val (.int p3), .val (.int p4), .val (.int p5), .val (.int p6), .val (.int kk), .val (.int i1), .val (.int j1), .val (.int i2), .val (.int j2), .val (.ref b1), .unset, .unset, .unset, .unset, .unset] [(.int (0 : Int32)), (.int f0), (.ref a8), (.ref b3), (.ref b3), (.int (0 : Int32)), (.ref b1)])) rfl (by rw [hml]; rfl) (Steps.refl _) (a := b3) (argsL := [(.ref a8), (.int f0), (.int (0 : Int32))]) (rest := [(.ref b3), (.int (0 : Int32)), (.ref b1)]) (lenOf pd_6 rfl) rfl (by show 2 * 0 + _ ≤ _; exact Nat.le_of_eq rfl) (hb hby at_69) (fun _ _ => ⟨rfl, e8, (by decide : 4 + 1 ≤ _), (by decide : 15 + 4 ≤ _)⟩)
    dsimp only [Pt.U, Pt.locs, Pt.cells, Pt.slots] at X107 l107 y107 z107 st107 hQ107
    subst l107 y107 z107
    obtain ⟨rfl, N107q, K107, P107_0, P107_1, P107_2, P107_3⟩ := hQ107
    have N108 := Fr.app N0 N107q
    refine GoW.step (fun _ k => st107.trans k) ?_
    show GoW p e below s _ _ _ T107 (mkF m 72 #[.val (.int p1), .val (.int p2), .val (.int p3), .val (.int p4), .val (.int p5), .val (.int p6), .val (.int kk), .val (.int i1), .val (.int j1), .val (.int i2), .val (.int j2), .val (.ref b1), .unset, .unset, .unset, .unset, .unset] [(.ref b3), (.int (0 : Int32)), (.ref b1)])
    have ne109 : b1 ≠ b3 := Nat.ne_of_lt (Nat.lt_of_lt_of_le f2.lt (Nat.le_of_eq g3.symm))
    have f110 := (((f2.ext E3).ext E8).keep K107 (ninS ne109 nin0))
    obtain ⟨cl111, Ar111, qq111, Sz111, Ng111, Hs111, Ft111⟩ := id f110
    have in111 : ¬ ((0 : Int32) < 0 ∨ cl111.slots.size ≤ ((0 : Int32)).toNatClampNeg) := (inb_of Sz111 ⟨by decide, by decide⟩)
    have f112 := (f102.keep K107)
    obtain ⟨T111, h111, X111, e111, W111, st111⟩ := stR X107 hx hZ8 rfl Ar111 (j := (0 : Int32)) in111 rfl (Sto.ofV Ar111 qq111 O1 (Ins.self f112)) (g := (mkF m 72 #[.val (.int p1), .val (.int p2), .val (.int p3), .val (.int p4), .val (.int p5), .val (.int p6), .val (.int kk), .val (.int i1), .val (.int j1), .val (.int i2), .val (.int j2), .val (.ref b1), .unset, .unset, .unset, .unset, .unset] [(.ref b3), (.int (0 : Int32)), (.ref b1)])) rfl rfl (hb hby at_72)
    have g113 := Nat.le_trans Z0 (Nat.le_of_eq g1.symm)
    have f114 : Arv Z h111 b1 k1 (.object xs9) (3 : Int32) [(.ref b3), .null, .null] .null := Arv.set Ar111 qq111 Sz111 Ng111 Hs111 Ft111 rfl W111 0 rfl (Nat.le_of_ble_eq_true rfl)
    have N115 := Fr.snoc X111 N108 g113
    refine GoW.step (fun _ k => st111 _ (XS.aload X111.here hx rfl (hb hby at_73) rfl rfl (XS.iconst X111.here hx rfl (hb hby at_75) k))) ?_
    show GoW p e below s _ _ _ T111 (mkF m 76 #[.val (.int p1), .val (.int p2), .val (.int p3), .val (.int p4), .val (.int p5), .val (.int p6), .val (.int kk), .val (.int i1), .val (.int j1), .val (.int i2), .val (.int j2), .val (.ref b1), .unset, .unset, .unset, .unset, .unset] [(.int (1 : Int32)), (.ref b1)])
    obtain ⟨T116, h116, X116, e116, E116, A116, D116, -, st116⟩ := newO X111 hx hZ8 hown8 (tw1 hw) (tw3 hw) (tw4 hw) e111 (g := (mkF m 76 #[.val (.int p1), .val (.int p2), .val (.int p3), .val (.int p4), .val (.int p5), .val (.int p6), .val (.int kk), .val (.int i1), .val (.int j1), .val (.int i2), .val (.int j2), .val (.ref b1), .unset, .unset, .unset, .unset, .unset] [(.int (1 : Int32)), (.ref b1)])) rfl (hb hby at_76) (by decide) (by decide)
    obtain ⟨b116, g116⟩ : ∃ z, z = h111.size := ⟨_, rfl⟩
    rw [← g116] at A116 D116 st116
    have f117 : Fld Z h116 b116 xs6 "depth" "I" (.int (0 : Int32)) := D116 (Or.inr (tw80 hw)) (ty := .int) (by decide)
    have f118 : Fld Z h116 b116 xs9 "name" xs40 .null := D116 (Or.inr (tw82 hw)) (ty := (.object xs43)) (by decide)
    have f119 : Fld Z h116 b116 xs9 xs45 "Z" (.int (0 : Int32)) := D116 (Or.inr (tw84 hw)) (ty := .boolean) (by decide)
    have f120 : Fld Z h116 b116 xs9 "index" "I" (.int (0 : Int32)) := D116 (Or.inr (tw86 hw)) (ty := .int) (by decide)
    refine GoW.step (fun _ k => st116 _ (XS.dup X116.here hx rfl (hb hby at_79) rfl rfl k)) ?_
    show GoW p e below s _ _ _ T116 (mkF m 80 #[.val (.int p1), .val (.int p2), .val (.int p3), .val (.int p4), .val (.int p5), .val (.int p6), .val (.int kk), .val (.int i1), .val (.int j1), .val (.int i2), .val (.int j2), .val (.ref b1), .unset, .unset, .unset, .unset, .unset] [(.ref b116), (.ref b116), (.int (1 : Int32)), (.ref b1)])
    have f122 := (Nat.le_trans (Nat.le_trans (Nat.le_trans hk8 K107.1) (Keep.of_wr W111).1) E116.1)
    obtain ⟨a121, T121, h121, k121, X121, e121, E121, hS121, hk121, hZ121, hown121, st121⟩ := ldcS X116 hx hZ8 hown8 (tw88 hw) (own_wS hw) e116 hS8 f122 (g := (mkF m 80 #[.val (.int p1), .val (.int p2), .val (.int p3), .val (.int p4), .val (.int p5), .val (.int p6), .val (.int kk), .val (.int i1), .val (.int j1), .val (.int i2), .val (.int j2), .val (.ref b1), .unset, .unset, .unset, .unset, .unset] [(.ref b116), (.ref b116), (.int (1 : Int32)), (.ref b1)])) rfl (hb hby at_80) (n := 4) (by decide) (by decide) (by decide) (by decide)
    refine GoW.step (fun _ k => st121 _ (XS.iload X121.here hx rfl (hb hby at_82) rfl (XS.iconst X121.here hx rfl (hb hby at_84) (XS.iand X121.here hx rfl (hb hby at_85) rfl k)))) ?_
    show GoW p e below s _ _ _ T121 (mkF m 86 #[.val (.int p1), .val (.int p2), .val (.int p3), .val (.int p4), .val (.int p5), .val (.int p6), .val (.int kk), .val (.int i1), .val (.int j1), .val (.int i2), .val (.int j2), .val (.ref b1), .unset, .unset, .unset, .unset, .unset] [(.int (p6 &&& (2 : Int32))), (.ref a121), (.ref b116), (.ref b116), (.int (1 : Int32)), (.ref b1)])
    have J1 : ∀ (f1 : Int32), GoW p e below s (Q_law Z p1 p2 p3 p4 p5 p6 el ela kel de kde h0 n0) room_1.cells room_1.slots T121 (mkF m 94 #[.val (.int p1), .val (.int p2), .val (.int p3), .val (.int p4), .val (.int p5), .val (.int p6), .val (.int kk), .val (.int i1), .val (.int j1), .val (.int i2), .val (.int j2), .val (.ref b1), .unset, .unset, .unset, .unset, .unset] [(.int f1), (.ref a121), (.ref b116), (.ref b116), (.int (1 : Int32)), (.ref b1)]) := by
      intro f1
      refine GoW.step (fun _ k => XS.iconst X121.here hx rfl (hb hby at_94) k) ?_
      show GoW p e below s _ _ _ T121 (mkF m 95 #[.val (.int p1), .val (.int p2), .val (.int p3), .val (.int p4), .val (.int p5), .val (.int p6), .val (.int kk), .val (.int i1), .val (.int j1), .val (.int i2), .val (.int j2), .val (.ref b1), .unset, .unset, .unset, .unset, .unset] [(.int (1 : Int32)), (.int f1), (.ref a121), (.ref b116), (.ref b116), (.int (1 : Int32)), (.ref b1)])
      have f125 := (Nat.le_trans (Nat.le_trans f101 K107.1) (Keep.of_wr W111).1)
      have g126 := Nat.le_trans f125 (Nat.le_of_eq g116.symm)
      have f148 := ((((f100.keep K107 (allS g67 all0)).wr W111 g113).ext E116).ext E121)
      have f149 := (Nat.le_trans (Nat.le_trans f125 E116.1) E121.1)
      have f150 := (A116.ext E121)
      have f151 := (f117.ext E121)
      have f152 := (f120.ext E121)
      have f153 := (f119.ext E121)
      have f154 := (f118.ext E121)
      obtain ⟨_, _, ⟨T155, L155, k155, n155⟩, -, X155, ⟨Lc155, hQ155, l155, y155, z155⟩, st155⟩ := X121.specialBack hx (y := xm16) rfl hown121 (mvT hZ121 (tw13 hw)) (mvT hZ121 (tw14 hw)) (mvT hZ121 (tw15 hw)) (by decide) (backOf (W := 3) (rm_Variable_new_1 l Z a0 hw [] b116 a121 f1 el ela kel h121 n0 f149 Z_S_EMPTY_LIST f148 f150 f151 f152 f153 f154 Z_E_el Z_F_elements_el Z_A_ela g126) hZ121 (tw15 hw) (tw4 hw) (by decide) (by decide)) (g := (mkF m 95 #[.val (.int p1), .val (.int p2), .val (.int p3), .val (.int p4), .val (.int p5), .val (.int p6), .val (.int kk), .val (.int i1), .val (.int j1), .val (.int i2), .val (.int j2), .val (.ref b1), .unset, .unset, .unset, .unset, .unset] [(.int (1 : Int32)), (.int f1), (.ref a121), (.ref b116), (.ref b116), (.int (1 : Int32)), (.ref b1)])) rfl (by rw [hml]; rfl) (Steps.refl _) (a := b116) (argsL := [(.ref a121), (.int f1), (.int (1 : Int32))]) (rest := [(.ref b116), (.int (1 : Int32)), (.ref b1)]) (lenOf pd_6 rfl) rfl (by show 2 * 0 + _ ≤ _; exact Nat.le_of_eq rfl) (hb hby at_95) (fun _ _ => ⟨rfl, e121, (by decide : 8 + 1 ≤ _), (by decide : 31 + 4 ≤ _)⟩)
      dsimp only [Pt.U, Pt.locs, Pt.cells, Pt.slots] at X155 l155 y155 z155 st155 hQ155
      subst l155 y155 z155
      obtain ⟨rfl, N155q, K155, P155_0, P155_1, P155_2, P155_3⟩ := hQ155
      have N156 := Fr.app N115 N155q
      refine GoW.step (fun _ k => st155.trans k) ?_
      show GoW p e below s _ _ _ T155 (mkF m 98 #[.val (.int p1), .val (.int p2), .val (.int p3), .val (.int p4), .val (.int p5), .val (.int p6), .val (.int kk), .val (.int i1), .val (.int j1), .val (.int i2), .val (.int j2), .val (.ref b1), .unset, .unset, .unset, .unset, .unset] [(.ref b116), (.int (1 : Int32)), (.ref b1)])
      have ne157 : b1 ≠ b116 := Nat.ne_of_lt (Nat.lt_of_lt_of_le f114.lt (Nat.le_of_eq g116.symm))
      have f158 := (((f114.ext E116).ext E121).keep K155 (ninS ne157 nin0))
      obtain ⟨cl159, Ar159, qq159, Sz159, Ng159, Hs159, Ft159⟩ := id f158
      have in159 : ¬ ((1 : Int32) < 0 ∨ cl159.slots.size ≤ ((1 : Int32)).toNatClampNeg) := (inb_of Sz159 ⟨by decide, by decide⟩)
      have f160 := (f150.keep K155)
      obtain ⟨T159, h159, X159, e159, W159, st159⟩ := stR X155 hx hZ121 rfl Ar159 (j := (1 : Int32)) in159 rfl (Sto.ofV Ar159 qq159 O1 (Ins.self f160)) (g := (mkF m 98 #[.val (.int p1), .val (.int p2), .val (.int p3), .val (.int p4), .val (.int p5), .val (.int p6), .val (.int kk), .val (.int i1), .val (.int j1), .val (.int i2), .val (.int j2), .val (.ref b1), .unset, .unset, .unset, .unset, .unset] [(.ref b116), (.int (1 : Int32)), (.ref b1)])) rfl rfl (hb hby at_98)
      have f161 : Arv Z h159 b1 k1 (.object xs9) (3 : Int32) [(.ref b3), (.ref b116), .null] .null := Arv.set Ar159 qq159 Sz159 Ng159 Hs159 Ft159 rfl W159 1 rfl (Nat.le_of_ble_eq_true rfl)
      have N162 := Fr.snoc X159 N156 g113
      refine GoW.step (fun _ k => st159 _ (XS.aload X159.here hx rfl (hb hby at_99) rfl rfl (XS.iconst X159.here hx rfl (hb hby at_101) k))) ?_
      show GoW p e below s _ _ _ T159 (mkF m 102 #[.val (.int p1), .val (.int p2), .val (.int p3), .val (.int p4), .val (.int p5), .val (.int p6), .val (.int kk), .val (.int i1), .val (.int j1), .val (.int i2), .val (.int j2), .val (.ref b1), .unset, .unset, .unset, .unset, .unset] [(.int (2 : Int32)), (.ref b1)])
      obtain ⟨T163, h163, X163, e163, E163, A163, D163, -, st163⟩ := newO X159 hx hZ121 hown121 (tw1 hw) (tw3 hw) (tw4 hw) e159 (g := (mkF m 102 #[.val (.int p1), .val (.int p2), .val (.int p3), .val (.int p4), .val (.int p5), .val (.int p6), .val (.int kk), .val (.int i1), .val (.int j1), .val (.int i2), .val (.int j2), .val (.ref b1), .unset, .unset, .unset, .unset, .unset] [(.int (2 : Int32)), (.ref b1)])) rfl (hb hby at_102) (by decide) (by decide)
      obtain ⟨b163, g163⟩ : ∃ z, z = h159.size := ⟨_, rfl⟩
      rw [← g163] at A163 D163 st163
      have f164 : Fld Z h163 b163 xs6 "depth" "I" (.int (0 : Int32)) := D163 (Or.inr (tw80 hw)) (ty := .int) (by decide)
      have f165 : Fld Z h163 b163 xs9 "name" xs40 .null := D163 (Or.inr (tw82 hw)) (ty := (.object xs43)) (by decide)
      have f166 : Fld Z h163 b163 xs9 xs45 "Z" (.int (0 : Int32)) := D163 (Or.inr (tw84 hw)) (ty := .boolean) (by decide)
      have f167 : Fld Z h163 b163 xs9 "index" "I" (.int (0 : Int32)) := D163 (Or.inr (tw86 hw)) (ty := .int) (by decide)
      refine GoW.step (fun _ k => st163 _ (XS.dup X163.here hx rfl (hb hby at_105) rfl rfl k)) ?_
      show GoW p e below s _ _ _ T163 (mkF m 106 #[.val (.int p1), .val (.int p2), .val (.int p3), .val (.int p4), .val (.int p5), .val (.int p6), .val (.int kk), .val (.int i1), .val (.int j1), .val (.int i2), .val (.int j2), .val (.ref b1), .unset, .unset, .unset, .unset, .unset] [(.ref b163), (.ref b163), (.int (2 : Int32)), (.ref b1)])
      have f169 := (Nat.le_trans (Nat.le_trans (Nat.le_trans hk121 K155.1) (Keep.of_wr W159).1) E163.1)
      obtain ⟨a168, T168, h168, k168, X168, e168, E168, hS168, hk168, hZ168, hown168, st168⟩ := ldcS X163 hx hZ121 hown121 (tw89 hw) (own_wS hw) e163 hS121 f169 (g := (mkF m 106 #[.val (.int p1), .val (.int p2), .val (.int p3), .val (.int p4), .val (.int p5), .val (.int p6), .val (.int kk), .val (.int i1), .val (.int j1), .val (.int i2), .val (.int j2), .val (.ref b1), .unset, .unset, .unset, .unset, .unset] [(.ref b163), (.ref b163), (.int (2 : Int32)), (.ref b1)])) rfl (hb hby at_106) (n := 4) (by decide) (by decide) (by decide) (by decide)
      refine GoW.step (fun _ k => st168 _ (XS.iload X168.here hx rfl (hb hby at_108) rfl (XS.iconst X168.here hx rfl (hb hby at_110) (XS.iand X168.here hx rfl (hb hby at_111) rfl k)))) ?_
      show GoW p e below s _ _ _ T168 (mkF m 112 #[.val (.int p1), .val (.int p2), .val (.int p3), .val (.int p4), .val (.int p5), .val (.int p6), .val (.int kk), .val (.int i1), .val (.int j1), .val (.int i2), .val (.int j2), .val (.ref b1), .unset, .unset, .unset, .unset, .unset] [(.int (p6 &&& (4 : Int32))), (.ref a168), (.ref b163), (.ref b163), (.int (2 : Int32)), (.ref b1)])
      have J2 : ∀ (f2 : Int32), GoW p e below s (Q_law Z p1 p2 p3 p4 p5 p6 el ela kel de kde h0 n0) room_1.cells room_1.slots T168 (mkF m 120 #[.val (.int p1), .val (.int p2), .val (.int p3), .val (.int p4), .val (.int p5), .val (.int p6), .val (.int kk), .val (.int i1), .val (.int j1), .val (.int i2), .val (.int j2), .val (.ref b1), .unset, .unset, .unset, .unset, .unset] [(.int f2), (.ref a168), (.ref b163), (.ref b163), (.int (2 : Int32)), (.ref b1)]) := by
        intro f2
        refine GoW.step (fun _ k => XS.iconst X168.here hx rfl (hb hby at_120) k) ?_
        show GoW p e below s _ _ _ T168 (mkF m 121 #[.val (.int p1), .val (.int p2), .val (.int p3), .val (.int p4), .val (.int p5), .val (.int p6), .val (.int kk), .val (.int i1), .val (.int j1), .val (.int i2), .val (.int j2), .val (.ref b1), .unset, .unset, .unset, .unset, .unset] [(.int (2 : Int32)), (.int f2), (.ref a168), (.ref b163), (.ref b163), (.int (2 : Int32)), (.ref b1)])
        have f172 := (Nat.le_trans (Nat.le_trans f149 K155.1) (Keep.of_wr W159).1)
        have g173 := Nat.le_trans f172 (Nat.le_of_eq g163.symm)
        have f195 := ((((f148.keep K155 (allS g126 all0)).wr W159 g113).ext E163).ext E168)
        have f196 := (Nat.le_trans (Nat.le_trans f172 E163.1) E168.1)
        have f197 := (A163.ext E168)
        have f198 := (f164.ext E168)
        have f199 := (f167.ext E168)
        have f200 := (f166.ext E168)
        have f201 := (f165.ext E168)
        obtain ⟨_, _, ⟨T202, L202, k202, n202⟩, -, X202, ⟨Lc202, hQ202, l202, y202, z202⟩, st202⟩ := X168.specialBack hx (y := xm16) rfl hown168 (mvT hZ168 (tw13 hw)) (mvT hZ168 (tw14 hw)) (mvT hZ168 (tw15 hw)) (by decide) (backOf (W := 3) (rm_Variable_new_2 l Z a0 hw [] b163 a168 f2 el ela kel h168 n0 f196 Z_S_EMPTY_LIST f195 f197 f198 f199 f200 f201 Z_E_el Z_F_elements_el Z_A_ela g173) hZ168 (tw15 hw) (tw4 hw) (by decide) (by decide)) (g := (mkF m 121 #[.val (.int p1), .val (.int p2), .val (.int p3), .val (.int p4), .val (.int p5), .val (.int p6), .val (.int kk), .val (.int i1), .val (.int j1), .val (.int i2), .val (.int j2), .val (.ref b1), .unset, .unset, .unset, .unset, .unset] [(.int (2 : Int32)), (.int f2), (.ref a168), (.ref b163), (.ref b163), (.int (2 : Int32)), (.ref b1)])) rfl (by rw [hml]; rfl) (Steps.refl _) (a := b163) (argsL := [(.ref a168), (.int f2), (.int (2 : Int32))]) (rest := [(.ref b163), (.int (2 : Int32)), (.ref b1)]) (lenOf pd_6 rfl) rfl (by show 2 * 0 + _ ≤ _; exact Nat.le_of_eq rfl) (hb hby at_121) (fun _ _ => ⟨rfl, e168, (by decide : 12 + 1 ≤ _), (by decide : 47 + 4 ≤ _)⟩)
        dsimp only [Pt.U, Pt.locs, Pt.cells, Pt.slots] at X202 l202 y202 z202 st202 hQ202
        subst l202 y202 z202
        obtain ⟨rfl, N202q, K202, P202_0, P202_1, P202_2, P202_3⟩ := hQ202
        have N203 := Fr.app N162 N202q
        refine GoW.step (fun _ k => st202.trans k) ?_
        show GoW p e below s _ _ _ T202 (mkF m 124 #[.val (.int p1), .val (.int p2), .val (.int p3), .val (.int p4), .val (.int p5), .val (.int p6), .val (.int kk), .val (.int i1), .val (.int j1), .val (.int i2), .val (.int j2), .val (.ref b1), .unset, .unset, .unset, .unset, .unset] [(.ref b163), (.int (2 : Int32)), (.ref b1)])
        have ne204 : b1 ≠ b163 := Nat.ne_of_lt (Nat.lt_of_lt_of_le f161.lt (Nat.le_of_eq g163.symm))
        have f205 := (((f161.ext E163).ext E168).keep K202 (ninS ne204 nin0))
        obtain ⟨cl206, Ar206, qq206, Sz206, Ng206, Hs206, Ft206⟩ := id f205
        have in206 : ¬ ((2 : Int32) < 0 ∨ cl206.slots.size ≤ ((2 : Int32)).toNatClampNeg) := (inb_of Sz206 ⟨by decide, by decide⟩)
        have f207 := (f197.keep K202)
        obtain ⟨T206, h206, X206, e206, W206, st206⟩ := stR X202 hx hZ168 rfl Ar206 (j := (2 : Int32)) in206 rfl (Sto.ofV Ar206 qq206 O1 (Ins.self f207)) (g := (mkF m 124 #[.val (.int p1), .val (.int p2), .val (.int p3), .val (.int p4), .val (.int p5), .val (.int p6), .val (.int kk), .val (.int i1), .val (.int j1), .val (.int i2), .val (.int j2), .val (.ref b1), .unset, .unset, .unset, .unset, .unset] [(.ref b163), (.int (2 : Int32)), (.ref b1)])) rfl rfl (hb hby at_124)
        have f208 : Arv Z h206 b1 k1 (.object xs9) (3 : Int32) [(.ref b3), (.ref b116), (.ref b163)] .null := Arv.set Ar206 qq206 Sz206 Ng206 Hs206 Ft206 rfl W206 2 rfl (Nat.le_of_ble_eq_true rfl)
        have N209 := Fr.snoc X206 N203 g113
        refine GoW.step (fun _ k => st206 _ k) ?_
        show GoW p e below s _ _ _ T206 (mkF m 125 #[.val (.int p1), .val (.int p2), .val (.int p3), .val (.int p4), .val (.int p5), .val (.int p6), .val (.int kk), .val (.int i1), .val (.int j1), .val (.int i2), .val (.int j2), .val (.ref b1), .unset, .unset, .unset, .unset, .unset] [])
        obtain ⟨u1, pk_i1, ou1⟩ := own_pick i1 hi1 b3 b116 b163
        have f210 := (((((((((f112.wr W111).ext E116).ext E121).keep K155).wr W159).ext E163).ext E168).keep K202).wr W206)
        have f211 := (((((f160.wr W159).ext E163).ext E168).keep K202).wr W206)
        have f212 := (f207.wr W206)
        have f213 := own_pickE ou1 f210 f211 f212
        have f214 := (f112.wr W111)
        have ne215 : b3 ≠ b116 := Nat.ne_of_lt (Nat.lt_of_lt_of_le f214.lt (Nat.le_of_eq g116.symm))
        have f216 := ((((f214.ext E116).ext E121).keep K155).wr W159)
        have ne217 : b3 ≠ b163 := Nat.ne_of_lt (Nat.lt_of_lt_of_le f216.lt (Nat.le_of_eq g163.symm))
        have f218 := (((((((((P107_1.other W111 (Or.inl (Ne.symm ne109))).ext E116).ext E121).keep K155 (ninS ne215 nin0)).other W159 (Or.inl (Ne.symm ne109))).ext E163).ext E168).keep K202 (ninS ne217 nin0)).other W206 (Or.inl (Ne.symm ne109)))
        have f219 := (f160.wr W159)
        have ne220 : b116 ≠ b163 := Nat.ne_of_lt (Nat.lt_of_lt_of_le f219.lt (Nat.le_of_eq g163.symm))
        have f221 := (((((P155_1.other W159 (Or.inl (Ne.symm ne157))).ext E163).ext E168).keep K202 (ninS ne220 nin0)).other W206 (Or.inl (Ne.symm ne157)))
        have f222 := (P202_1.other W206 (Or.inl (Ne.symm ne204)))
        have f223 := own_pickF hi1 pk_i1.1 f218 f221 f222
        obtain ⟨t1, pk_j1, ot1⟩ := own_pick j1 hj1 b3 b116 b163
        have f224 := own_pickE ot1 f210 f211 f212
        obtain ⟨u2, pk_i2, ou2⟩ := own_pick i2 hi2 b3 b116 b163
        have f225 := own_pickE ou2 f210 f211 f212
        have f226 := own_pickF hi2 pk_i2.1 f218 f221 f222
        obtain ⟨t2, pk_j2, ot2⟩ := own_pick j2 hj2 b3 b116 b163
        have f227 := own_pickE ot2 f210 f211 f212
        obtain ⟨T228, h228, X228, e228, E228, A228, D228, -, st228⟩ := newO X206 hx hZ168 hown168 (tw90 hw) (tw91 hw) (tw92 hw) e206 (g := (mkF m 125 #[.val (.int p1), .val (.int p2), .val (.int p3), .val (.int p4), .val (.int p5), .val (.int p6), .val (.int kk), .val (.int i1), .val (.int j1), .val (.int i2), .val (.int j2), .val (.ref b1), .unset, .unset, .unset, .unset, .unset] [])) rfl (hb hby at_125) (by decide) (by decide)
        obtain ⟨b228, g228⟩ : ∃ z, z = h206.size := ⟨_, rfl⟩
        rw [← g228] at A228 D228 st228
        have f229 : Fld Z h228 b228 xs26 "modCount" "I" (.int (0 : Int32)) := D228 (Or.inl (tw110 hw)) (ty := .int) (by decide)
        have f230 : Fld Z h228 b228 xs37 "elementData" xs35 .null := D228 (Or.inl (tw113 hw)) (ty := (.array (.object xs41))) (by decide)
        have f231 : Fld Z h228 b228 xs37 "size" "I" (.int (0 : Int32)) := D228 (Or.inl (tw158 hw)) (ty := .int) (by decide)
        refine GoW.step (fun _ k => st228 _ (XS.dup X228.here hx rfl (hb hby at_128) rfl rfl k)) ?_
        show GoW p e below s _ _ _ T228 (mkF m 129 #[.val (.int p1), .val (.int p2), .val (.int p3), .val (.int p4), .val (.int p5), .val (.int p6), .val (.int kk), .val (.int i1), .val (.int j1), .val (.int i2), .val (.int j2), .val (.ref b1), .unset, .unset, .unset, .unset, .unset] [(.ref b228), (.ref b228)])
        have f236 := (Nat.le_trans (Nat.le_trans f196 K202.1) (Keep.of_wr W206).1)
        have g237 := Nat.le_trans f236 (Nat.le_of_eq g228.symm)
        have f256 := (((f195.keep K202 (allS g173 all0)).wr W206 g113).ext E228)
        have f257 := (Nat.le_trans f236 E228.1)
        obtain ⟨_, _, ⟨T258, L258, k258, n258⟩, -, X258, ⟨Lc258, hQ258, l258, y258, z258⟩, st258⟩ := X228.specialBack hx (y := xm8) rfl hown168 (mvT hZ168 (tw93 hw)) (mvT hZ168 (tw94 hw)) (mvT hZ168 (tw95 hw)) (by decide) (backOf (W := 1) (rm_ArrayList_new_0 l Z a0 hw [] b228 de h228 n0 f257 A228 f229 g237 f230 f231 Z_S_DEFAULTCAPACITY_EMPTY_ELEMENTDATA f256) hZ168 (tw95 hw) (tw92 hw) (by decide) (by decide)) (g := (mkF m 129 #[.val (.int p1), .val (.int p2), .val (.int p3), .val (.int p4), .val (.int p5), .val (.int p6), .val (.int kk), .val (.int i1), .val (.int j1), .val (.int i2), .val (.int j2), .val (.ref b1), .unset, .unset, .unset, .unset, .unset] [(.ref b228), (.ref b228)])) rfl (by rw [hml]; rfl) (Steps.refl _) (a := b228) (argsL := []) (rest := [(.ref b228)]) (lenOf pd_7 rfl) rfl (by show 2 * 0 + _ ≤ _; exact Nat.le_of_eq rfl) (hb hby at_129) (fun _ _ => ⟨rfl, e228, (by decide : 14 + 0 ≤ _), (by decide : 54 + 0 ≤ _)⟩)
        dsimp only [Pt.U, Pt.locs, Pt.cells, Pt.slots] at X258 l258 y258 z258 st258 hQ258
        subst l258 y258 z258
        obtain ⟨rfl, N258q, K258, P258_0, P258_1, P258_2⟩ := hQ258
        have N259 := Fr.app N209 N258q
        refine GoW.step (fun _ k => st258.trans (XS.astore X258.here hx rfl (hb hby at_132) rfl rfl (l' := #[.val (.int p1), .val (.int p2), .val (.int p3), .val (.int p4), .val (.int p5), .val (.int p6), .val (.int kk), .val (.int i1), .val (.int j1), .val (.int i2), .val (.int j2), .val (.ref b1), .val (.ref b228), .unset, .unset, .unset, .unset]) rfl k)) ?_
        show GoW p e below s _ _ _ T258 (mkF m 134 #[.val (.int p1), .val (.int p2), .val (.int p3), .val (.int p4), .val (.int p5), .val (.int p6), .val (.int kk), .val (.int i1), .val (.int j1), .val (.int i2), .val (.int j2), .val (.ref b1), .val (.ref b228), .unset, .unset, .unset, .unset] [])
        rcases hkk with rfl | rfl | rfl
        · refine GoW.step (fun _ k => XS.iload X258.here hx rfl (hb hby at_134) rfl (XS.iconst X258.here hx rfl (hb hby at_136) (XS.icmpYes X258.here hx rfl (pc0 := 137) (pc' := 165) rfl (hb hby at_137) rfl (tlt (by decide)).1 (by decide) (by decide) (XS.iload X258.here hx rfl (hb hby at_165) rfl (XS.iconst X258.here hx rfl (hb hby at_167) (XS.icmpYes X258.here hx rfl (pc0 := 168) (pc' := 196) rfl (hb hby at_168) rfl (tlt (by decide)).1 (by decide) (by decide) k)))))) ?_
          show GoW p e below s _ _ _ T258 (mkF m 196 #[.val (.int p1), .val (.int p2), .val (.int p3), .val (.int p4), .val (.int p5), .val (.int p6), .val (.int (0 : Int32)), .val (.int i1), .val (.int j1), .val (.int i2), .val (.int j2), .val (.ref b1), .val (.ref b228), .unset, .unset, .unset, .unset] [])
          obtain ⟨T272, h272, X272, e272, E272, A272, D272, -, st272⟩ := newO X258 hx hZ168 hown168 (tw114 hw) (tw115 hw) (tw116 hw) rfl (g := (mkF m 196 #[.val (.int p1), .val (.int p2), .val (.int p3), .val (.int p4), .val (.int p5), .val (.int p6), .val (.int (0 : Int32)), .val (.int i1), .val (.int j1), .val (.int i2), .val (.int j2), .val (.ref b1), .val (.ref b228), .unset, .unset, .unset, .unset] [])) rfl (hb hby at_196) (by decide) (by decide)
          obtain ⟨b272, g272⟩ : ∃ z, z = T258.heap.size := ⟨_, rfl⟩
          rw [← g272] at A272 D272 st272
          have f273 : Fld Z h272 b272 xs4 "replacements" xs11 .null := D272 (Or.inr (tw124 hw)) (ty := (.array (.object xs13))) (by decide)
          refine GoW.step (fun _ k => st272 _ (XS.dup X272.here hx rfl (hb hby at_199) rfl rfl (XS.iconst X272.here hx rfl (hb hby at_200) (XS.aload X272.here hx rfl (hb hby at_201) rfl rfl k)))) ?_
          show GoW p e below s _ _ _ T272 (mkF m 203 #[.val (.int p1), .val (.int p2), .val (.int p3), .val (.int p4), .val (.int p5), .val (.int p6), .val (.int (0 : Int32)), .val (.int i1), .val (.int j1), .val (.int i2), .val (.int j2), .val (.ref b1), .val (.ref b228), .unset, .unset, .unset, .unset] [(.ref b228), (.int (3 : Int32)), (.ref b272), (.ref b272)])
          have f280 := (Nat.le_trans f257 K258.1)
          have g281 := Nat.le_trans f280 (Nat.le_of_eq g272.symm)
          have f323 := (A228.keep K258)
          have ne324 : b228 ≠ b272 := Nat.ne_of_lt (Nat.lt_of_lt_of_le f323.lt (Nat.le_of_eq g272.symm))
          have f342 := (Nat.le_trans f280 E272.1)
          have f343 := ((A228.keep K258).ext E272)
          have f344 := (P258_0.ext E272)
          have f345 := (P258_2.ext E272)
          obtain ⟨_, _, ⟨T346, L346, k346, n346⟩, -, X346, ⟨Lc346, hQ346, l346, y346, z346⟩, st346⟩ := X272.specialBack hx (y := xm18) rfl hown168 (mvT hZ168 (tw117 hw)) (mvT hZ168 (tw118 hw)) (mvT hZ168 (tw119 hw)) (by decide) (backOf (W := 1) (rm_Substitution_new_0 l Z a0 hw [] b272 b228 h272 n0 f342 A272 f273 g281 f343 f344 ne324 f345) hZ168 (tw119 hw) (tw116 hw) (by decide) (by decide)) (g := (mkF m 203 #[.val (.int p1), .val (.int p2), .val (.int p3), .val (.int p4), .val (.int p5), .val (.int p6), .val (.int (0 : Int32)), .val (.int i1), .val (.int j1), .val (.int i2), .val (.int j2), .val (.ref b1), .val (.ref b228), .unset, .unset, .unset, .unset] [(.ref b228), (.int (3 : Int32)), (.ref b272), (.ref b272)])) rfl (by rw [hml]; rfl) (Steps.refl _) (a := b272) (argsL := [(.int (3 : Int32)), (.ref b228)]) (rest := [(.ref b272)]) (lenOf pd_9 rfl) rfl (by show 2 * 0 + _ ≤ _; exact Nat.le_of_eq rfl) (hb hby at_203) (fun _ _ => ⟨rfl, e272, (by decide : 15 + 2 ≤ _), (by decide : 55 + 7 ≤ _)⟩)
          dsimp only [Pt.U, Pt.locs, Pt.cells, Pt.slots] at X346 l346 y346 z346 st346 hQ346
          subst l346 y346 z346
          obtain ⟨b275_346, k275_346, rfl, N346q, K346, P346_0, P346_1, P346_2, P346_3⟩ := hQ346
          have N347 := Fr.app N259 N346q
          refine GoW.step (fun _ k => st346.trans (XS.astore X346.here hx rfl (hb hby at_206) rfl rfl (l' := #[.val (.int p1), .val (.int p2), .val (.int p3), .val (.int p4), .val (.int p5), .val (.int p6), .val (.int (0 : Int32)), .val (.int i1), .val (.int j1), .val (.int i2), .val (.int j2), .val (.ref b1), .val (.ref b228), .val (.ref b272), .unset, .unset, .unset]) rfl (XS.aload X346.here hx rfl (hb hby at_208) rfl rfl (XS.aload X346.here hx rfl (hb hby at_210) rfl rfl (XS.iconst X346.here hx rfl (hb hby at_212) k))))) ?_
          show GoW p e below s _ _ _ T346 (mkF m 213 #[.val (.int p1), .val (.int p2), .val (.int p3), .val (.int p4), .val (.int p5), .val (.int p6), .val (.int (0 : Int32)), .val (.int i1), .val (.int j1), .val (.int i2), .val (.int j2), .val (.ref b1), .val (.ref b228), .val (.ref b272), .unset, .unset, .unset] [(.int (0 : Int32)), (.ref b1), (.ref b272)])
          have ne348 : b1 ≠ b228 := Nat.ne_of_lt (Nat.lt_of_lt_of_le f208.lt (Nat.le_of_eq g228.symm))
          have f349 := ((f208.ext E228).keep K258 (ninS ne348 nin0))
          have ne350 : b1 ≠ b272 := Nat.ne_of_lt (Nat.lt_of_lt_of_le f349.lt (Nat.le_of_eq g272.symm))
          have f351 := ((((f208.ext E228).keep K258 (ninS ne348 nin0)).ext E272).keep K346 (ninS ne350 nin0))
          obtain ⟨cl352, Ar352, -, Sz352, Ng352, Hs352, Ft352⟩ := id f351
          have in352 : ¬ ((0 : Int32) < 0 ∨ cl352.slots.size ≤ ((0 : Int32)).toNatClampNeg) := (inb_of Sz352 ⟨by decide, by decide⟩)
          have at352 : cl352.slots[((0 : Int32)).toNatClampNeg]? = some (.ref b3) := Hs352.at in352 rfl
          refine GoW.step (fun _ k => X346.aaload hx (j := (0 : Int32)) (v := (.ref b3)) (by exact Ar352.1) (State.isArrayOf_alike hZ168.alike Ar352.2.1) rfl Ar352.2.2 in352 at352 (g := (mkF m 213 #[.val (.int p1), .val (.int p2), .val (.int p3), .val (.int p4), .val (.int p5), .val (.int p6), .val (.int (0 : Int32)), .val (.int i1), .val (.int j1), .val (.int i2), .val (.int j2), .val (.ref b1), .val (.ref b228), .val (.ref b272), .unset, .unset, .unset] [(.int (0 : Int32)), (.ref b1), (.ref b272)])) rfl rfl (hb hby at_213) _ k) ?_
          show GoW p e below s _ _ _ T346 (mkF m 214 #[.val (.int p1), .val (.int p2), .val (.int p3), .val (.int p4), .val (.int p5), .val (.int p6), .val (.int (0 : Int32)), .val (.int i1), .val (.int j1), .val (.int i2), .val (.int j2), .val (.ref b1), .val (.ref b228), .val (.ref b272), .unset, .unset, .unset] [(.ref b3), (.ref b272)])
          have f353 := (Nat.le_trans f342 K346.1)
          have f354 := ((((f210.ext E228).keep K258).ext E272).keep K346)
          have ne355 : b3 ≠ b228 := Nat.ne_of_lt (Nat.lt_of_lt_of_le f210.lt (Nat.le_of_eq g228.symm))
          have f356 := ((f210.ext E228).keep K258)
          have ne357 : b3 ≠ b272 := Nat.ne_of_lt (Nat.lt_of_lt_of_le f356.lt (Nat.le_of_eq g272.symm))
          have f358 := ((((f218.ext E228).keep K258 (ninS ne355 nin0)).ext E272).keep K346 (ninS ne357 nin0))
          have f360 := (A272.keep K346)
          obtain ⟨cq359, kq359, q359a, q359b, q359c⟩ := isOf hZ168 rfl f360
          obtain ⟨_, _, ⟨T359, L359, k359, n359⟩, -, X359, ⟨Lc359, hQ359, l359, y359, z359⟩, st359⟩ := X346.virtualBack hx (y := xm11) (z := xm11) hown168 (mvT hZ168 (tw159 hw)) (mvT hZ168 (tw160 hw)) (notFace_of_selects (args := #[]) (mvT hZ168 (tw162 hw))) (mvT hZ168 (tw162 hw)) (mvT hZ168 (tw161 hw)) (by decide) (backOf (W := 0) (rm_variable0 l Z a0 hw [] b272 b3 b275_346 k275_346 .null .null .null T346.heap n0 f353 P346_0 P346_2 f354 f358 (rfl : Value.isRef .null = true)) hZ168 (tw163 hw) (tw116 hw) (by decide) (by decide)) q359a q359c (g := (mkF m 214 #[.val (.int p1), .val (.int p2), .val (.int p3), .val (.int p4), .val (.int p5), .val (.int p6), .val (.int (0 : Int32)), .val (.int i1), .val (.int j1), .val (.int i2), .val (.int j2), .val (.ref b1), .val (.ref b228), .val (.ref b272), .unset, .unset, .unset] [(.ref b3), (.ref b272)])) rfl (by rw [hml]; rfl) (Steps.refl _) (argsL := [(.ref b3)]) (rest := []) (lenOf pd_10 rfl) rfl (by show 2 * 0 + _ ≤ _; exact Nat.le_of_eq rfl) (hb hby at_214) (fun _ _ => ⟨rfl, rfl, (by decide : 17 + 0 ≤ _), (by decide : 62 + 0 ≤ _)⟩)
          dsimp only [Pt.U, Pt.locs, Pt.cells, Pt.slots] at X359 l359 y359 z359 st359 hQ359
          subst l359 y359 z359
          obtain ⟨rfl, N359q, eq359⟩ := hQ359
          have N361 := Fr.app N347 N359q
          refine GoW.step (fun _ k => st359.trans (XS.astoreS X359.here hx rfl (hb hby at_217) rfl (own_orR (rfl : Value.isRef .null = true)) (own_cat (own_orR (rfl : Value.isRef .null = true))) rfl (Or.inl rfl) (XS.aload X359.here hx rfl (hb hby at_219) rfl rfl (XS.aload X359.here hx rfl (hb hby at_221) rfl rfl (XS.iconst X359.here hx rfl (hb hby at_223) k))))) ?_
          show GoW p e below s _ _ _ T359 (mkF m 224 #[.val (.int p1), .val (.int p2), .val (.int p3), .val (.int p4), .val (.int p5), .val (.int p6), .val (.int (0 : Int32)), .val (.int i1), .val (.int j1), .val (.int i2), .val (.int j2), .val (.ref b1), .val (.ref b228), .val (.ref b272), .val (own_or .null b3), .unset, .unset] [(.int (1 : Int32)), (.ref b1), (.ref b272)])
          obtain ⟨cl362, Ar362, -, Sz362, Ng362, Hs362, Ft362⟩ := id f351
          have in362 : ¬ ((1 : Int32) < 0 ∨ cl362.slots.size ≤ ((1 : Int32)).toNatClampNeg) := (inb_of Sz362 ⟨by decide, by decide⟩)
          have at362 : cl362.slots[((1 : Int32)).toNatClampNeg]? = some (.ref b116) := Hs362.at in362 rfl
          refine GoW.step (fun _ k => X359.aaload hx (j := (1 : Int32)) (v := (.ref b116)) (by rw [eq359]; exact Ar362.1) (State.isArrayOf_alike hZ168.alike Ar362.2.1) rfl Ar362.2.2 in362 at362 (g := (mkF m 224 #[.val (.int p1), .val (.int p2), .val (.int p3), .val (.int p4), .val (.int p5), .val (.int p6), .val (.int (0 : Int32)), .val (.int i1), .val (.int j1), .val (.int i2), .val (.int j2), .val (.ref b1), .val (.ref b228), .val (.ref b272), .val (own_or .null b3), .unset, .unset] [(.int (1 : Int32)), (.ref b1), (.ref b272)])) rfl rfl (hb hby at_224) _ k) ?_
          show GoW p e below s _ _ _ T359 (mkF m 225 #[.val (.int p1), .val (.int p2), .val (.int p3), .val (.int p4), .val (.int p5), .val (.int p6), .val (.int (0 : Int32)), .val (.int i1), .val (.int j1), .val (.int i2), .val (.int j2), .val (.ref b1), .val (.ref b228), .val (.ref b272), .val (own_or .null b3), .unset, .unset] [(.ref b116), (.ref b272)])
          have f363 := ((((f211.ext E228).keep K258).ext E272).keep K346)
          have ne364 : b116 ≠ b228 := Nat.ne_of_lt (Nat.lt_of_lt_of_le f211.lt (Nat.le_of_eq g228.symm))
          have f365 := ((f211.ext E228).keep K258)
          have ne366 : b116 ≠ b272 := Nat.ne_of_lt (Nat.lt_of_lt_of_le f365.lt (Nat.le_of_eq g272.symm))
          have f367 := ((((f221.ext E228).keep K258 (ninS ne364 nin0)).ext E272).keep K346 (ninS ne366 nin0))
          obtain ⟨cq368, kq368, q368a, q368b, q368c⟩ := isOf hZ168 eq359 f360
          obtain ⟨_, _, ⟨T368, L368, k368, n368⟩, -, X368, ⟨Lc368, hQ368, l368, y368, z368⟩, st368⟩ := X359.virtualBack hx (y := xm11) (z := xm11) hown168 (mvT hZ168 (tw159 hw)) (mvT hZ168 (tw160 hw)) (notFace_of_selects (args := #[]) (mvT hZ168 (tw162 hw))) (mvT hZ168 (tw162 hw)) (mvT hZ168 (tw161 hw)) (by decide) (backOf (W := 0) (rm_variable1 l Z a0 hw [] b272 b116 b275_346 k275_346 .null .null .null T346.heap n0 f353 P346_0 P346_2 f363 f367 (rfl : Value.isRef .null = true)) hZ168 (tw163 hw) (tw116 hw) (by decide) (by decide)) q368a q368c (g := (mkF m 225 #[.val (.int p1), .val (.int p2), .val (.int p3), .val (.int p4), .val (.int p5), .val (.int p6), .val (.int (0 : Int32)), .val (.int i1), .val (.int j1), .val (.int i2), .val (.int j2), .val (.ref b1), .val (.ref b228), .val (.ref b272), .val (own_or .null b3), .unset, .unset] [(.ref b116), (.ref b272)])) rfl (by rw [hml]; rfl) (Steps.refl _) (argsL := [(.ref b116)]) (rest := []) (lenOf pd_10 rfl) rfl (by show 2 * 0 + _ ≤ _; exact Nat.le_of_eq rfl) (hb hby at_225) (fun _ _ => ⟨rfl, eq359, (by decide : 17 + 0 ≤ _), (by decide : 62 + 0 ≤ _)⟩)
          dsimp only [Pt.U, Pt.locs, Pt.cells, Pt.slots] at X368 l368 y368 z368 st368 hQ368
          subst l368 y368 z368
          obtain ⟨rfl, N368q, eq368⟩ := hQ368
          have N369 := Fr.app N361 N368q
          refine GoW.step (fun _ k => st368.trans (XS.astoreS X368.here hx rfl (hb hby at_228) rfl (own_orR (rfl : Value.isRef .null = true)) (own_cat (own_orR (rfl : Value.isRef .null = true))) rfl (Or.inl rfl) (XS.aload X368.here hx rfl (hb hby at_230) rfl rfl (XS.aload X368.here hx rfl (hb hby at_232) rfl rfl (XS.iconst X368.here hx rfl (hb hby at_234) k))))) ?_
          show GoW p e below s _ _ _ T368 (mkF m 235 #[.val (.int p1), .val (.int p2), .val (.int p3), .val (.int p4), .val (.int p5), .val (.int p6), .val (.int (0 : Int32)), .val (.int i1), .val (.int j1), .val (.int i2), .val (.int j2), .val (.ref b1), .val (.ref b228), .val (.ref b272), .val (own_or .null b3), .val (own_or .null b116), .unset] [(.int (2 : Int32)), (.ref b1), (.ref b272)])
          obtain ⟨cl370, Ar370, -, Sz370, Ng370, Hs370, Ft370⟩ := id f351
          have in370 : ¬ ((2 : Int32) < 0 ∨ cl370.slots.size ≤ ((2 : Int32)).toNatClampNeg) := (inb_of Sz370 ⟨by decide, by decide⟩)
          have at370 : cl370.slots[((2 : Int32)).toNatClampNeg]? = some (.ref b163) := Hs370.at in370 rfl
          refine GoW.step (fun _ k => X368.aaload hx (j := (2 : Int32)) (v := (.ref b163)) (by rw [eq368]; exact Ar370.1) (State.isArrayOf_alike hZ168.alike Ar370.2.1) rfl Ar370.2.2 in370 at370 (g := (mkF m 235 #[.val (.int p1), .val (.int p2), .val (.int p3), .val (.int p4), .val (.int p5), .val (.int p6), .val (.int (0 : Int32)), .val (.int i1), .val (.int j1), .val (.int i2), .val (.int j2), .val (.ref b1), .val (.ref b228), .val (.ref b272), .val (own_or .null b3), .val (own_or .null b116), .unset] [(.int (2 : Int32)), (.ref b1), (.ref b272)])) rfl rfl (hb hby at_235) _ k) ?_
          show GoW p e below s _ _ _ T368 (mkF m 236 #[.val (.int p1), .val (.int p2), .val (.int p3), .val (.int p4), .val (.int p5), .val (.int p6), .val (.int (0 : Int32)), .val (.int i1), .val (.int j1), .val (.int i2), .val (.int j2), .val (.ref b1), .val (.ref b228), .val (.ref b272), .val (own_or .null b3), .val (own_or .null b116), .unset] [(.ref b163), (.ref b272)])
          have f371 := ((((f212.ext E228).keep K258).ext E272).keep K346)
          have ne372 : b163 ≠ b228 := Nat.ne_of_lt (Nat.lt_of_lt_of_le f212.lt (Nat.le_of_eq g228.symm))
          have f373 := ((f212.ext E228).keep K258)
          have ne374 : b163 ≠ b272 := Nat.ne_of_lt (Nat.lt_of_lt_of_le f373.lt (Nat.le_of_eq g272.symm))
          have f375 := ((((f222.ext E228).keep K258 (ninS ne372 nin0)).ext E272).keep K346 (ninS ne374 nin0))
          obtain ⟨cq376, kq376, q376a, q376b, q376c⟩ := isOf hZ168 eq368 f360
          obtain ⟨_, _, ⟨T376, L376, k376, n376⟩, -, X376, ⟨Lc376, hQ376, l376, y376, z376⟩, st376⟩ := X368.virtualBack hx (y := xm11) (z := xm11) hown168 (mvT hZ168 (tw159 hw)) (mvT hZ168 (tw160 hw)) (notFace_of_selects (args := #[]) (mvT hZ168 (tw162 hw))) (mvT hZ168 (tw162 hw)) (mvT hZ168 (tw161 hw)) (by decide) (backOf (W := 0) (rm_variable2 l Z a0 hw [] b272 b163 b275_346 k275_346 .null .null .null T346.heap n0 f353 P346_0 P346_2 f371 f375 (rfl : Value.isRef .null = true)) hZ168 (tw163 hw) (tw116 hw) (by decide) (by decide)) q376a q376c (g := (mkF m 236 #[.val (.int p1), .val (.int p2), .val (.int p3), .val (.int p4), .val (.int p5), .val (.int p6), .val (.int (0 : Int32)), .val (.int i1), .val (.int j1), .val (.int i2), .val (.int j2), .val (.ref b1), .val (.ref b228), .val (.ref b272), .val (own_or .null b3), .val (own_or .null b116), .unset] [(.ref b163), (.ref b272)])) rfl (by rw [hml]; rfl) (Steps.refl _) (argsL := [(.ref b163)]) (rest := []) (lenOf pd_10 rfl) rfl (by show 2 * 0 + _ ≤ _; exact Nat.le_of_eq rfl) (hb hby at_236) (fun _ _ => ⟨rfl, eq368, (by decide : 17 + 0 ≤ _), (by decide : 62 + 0 ≤ _)⟩)
          dsimp only [Pt.U, Pt.locs, Pt.cells, Pt.slots] at X376 l376 y376 z376 st376 hQ376
          subst l376 y376 z376
          obtain ⟨rfl, N376q, eq376⟩ := hQ376
          have N377 := Fr.app N369 N376q
          refine GoW.step (fun _ k => st376.trans (XS.astoreS X376.here hx rfl (hb hby at_239) rfl (own_orR (rfl : Value.isRef .null = true)) (own_cat (own_orR (rfl : Value.isRef .null = true))) rfl (Or.inl rfl) (XS.aload X376.here hx rfl (hb hby at_241) rfl (own_orR (rfl : Value.isRef .null = true)) (XS.aload X376.here hx rfl (hb hby at_243) rfl rfl (XS.iload X376.here hx rfl (hb hby at_245) rfl (XS.iload X376.here hx rfl (hb hby at_247) rfl (XS.iload X376.here hx rfl (hb hby at_249) rfl (XS.iload X376.here hx rfl (hb hby at_251) rfl (XS.iload X376.here hx rfl (hb hby at_253) rfl (XS.iconst X376.here hx rfl (hb hby at_255) k)))))))))) ?_
          show GoW p e below s _ _ _ T376 (mkF m 256 #[.val (.int p1), .val (.int p2), .val (.int p3), .val (.int p4), .val (.int p5), .val (.int p6), .val (.int (0 : Int32)), .val (.int i1), .val (.int j1), .val (.int i2), .val (.int j2), .val (.ref b1), .val (.ref b228), .val (.ref b272), .val (own_or .null b3), .val (own_or .null b116), .val (own_or .null b163)] [(.int (0 : Int32)), (.int j2), (.int i2), (.int j1), (.int i1), (.int (0 : Int32)), (.ref b1), (own_or .null b3)])
          obtain ⟨_, _, ⟨T378, L378, k378, n378⟩, -, X378, ⟨Lc378, hQ378, l378, y378, z378⟩, st378⟩ := Jvm.LawKit.callS X376 hx (y := xm19) hown168 (mvT hZ168 (tw169 hw)) (mvT hZ168 (tw170 hw)) (mvT hZ168 (tw171 hw)) (mvT hZ168 (tw172 hw)) (by decide) (backOf (W := 1) (rm_expect0 l Z a0 hw [] b1 i1 j1 i2 j2 (0 : Int32) k1 b3 b116 b163 b3 t1 t2 T346.heap n0 f353 f351 (⟨rfl, by decide, by decide⟩) pk_j1 pk_j2) hZ168 (tw172 hw) (tw171 hw) (by decide) (by decide)) (g := (mkF m 256 #[.val (.int p1), .val (.int p2), .val (.int p3), .val (.int p4), .val (.int p5), .val (.int p6), .val (.int (0 : Int32)), .val (.int i1), .val (.int j1), .val (.int i2), .val (.int j2), .val (.ref b1), .val (.ref b228), .val (.ref b272), .val (own_or .null b3), .val (own_or .null b116), .val (own_or .null b163)] [(.int (0 : Int32)), (.int j2), (.int i2), (.int j1), (.int i1), (.int (0 : Int32)), (.ref b1), (own_or .null b3)])) rfl (by rw [hml]; rfl) (argsL := [(.ref b1), (.int (0 : Int32)), (.int i1), (.int j1), (.int i2), (.int j2), (.int (0 : Int32))]) (rest := [(own_or .null b3)]) (lenOf pd_11 rfl) rfl (by show 2 * 0 + _ ≤ _; simp only [List.map, List.sum_cons, List.sum_nil, own_cat (own_orR (rfl : Value.isRef .null = true))]; decide) (hb hby at_256) (fun _ _ => ⟨rfl, eq376, (by decide : 17 + 0 ≤ _), (by decide : 62 + 0 ≤ _)⟩)
          dsimp only [Pt.U, Pt.locs, Pt.cells, Pt.slots] at X378 l378 y378 z378 st378 hQ378
          subst l378 y378 z378
          obtain ⟨rfl, N378q, eq378⟩ := hQ378
          have N379 := Fr.app N377 N378q
          refine GoW.step (fun _ k => st378 _ (Jvm.RoadKit.acmp (g := (mkF m 259 #[.val (.int p1), .val (.int p2), .val (.int p3), .val (.int p4), .val (.int p5), .val (.int p6), .val (.int (0 : Int32)), .val (.int i1), .val (.int j1), .val (.int i2), .val (.int j2), .val (.ref b1), .val (.ref b228), .val (.ref b272), .val (own_or .null b3), .val (own_or .null b116), .val (own_or .null b163)] [(.ref b3), (own_or .null b3)])) X378 hx rfl (own_orR (rfl : Value.isRef .null = true)) rfl (pc0 := 259) (pc' := 262) (same := true) rfl (hb hby at_259) rfl (decide_eq_true rfl) (by decide) (by decide) (XS.aload X378.here hx rfl (hb hby at_262) rfl (own_orR (rfl : Value.isRef .null = true)) (XS.aload X378.here hx rfl (hb hby at_264) rfl rfl (XS.iload X378.here hx rfl (hb hby at_266) rfl (XS.iload X378.here hx rfl (hb hby at_268) rfl (XS.iload X378.here hx rfl (hb hby at_270) rfl (XS.iload X378.here hx rfl (hb hby at_272) rfl (XS.iload X378.here hx rfl (hb hby at_274) rfl (XS.iconst X378.here hx rfl (hb hby at_276) k)))))))))) ?_
          show GoW p e below s _ _ _ T378 (mkF m 277 #[.val (.int p1), .val (.int p2), .val (.int p3), .val (.int p4), .val (.int p5), .val (.int p6), .val (.int (0 : Int32)), .val (.int i1), .val (.int j1), .val (.int i2), .val (.int j2), .val (.ref b1), .val (.ref b228), .val (.ref b272), .val (own_or .null b3), .val (own_or .null b116), .val (own_or .null b163)] [(.int (1 : Int32)), (.int j2), (.int i2), (.int j1), (.int i1), (.int (0 : Int32)), (.ref b1), (own_or .null b116)])
          obtain ⟨_, _, ⟨T380, L380, k380, n380⟩, -, X380, ⟨Lc380, hQ380, l380, y380, z380⟩, st380⟩ := Jvm.LawKit.callS X378 hx (y := xm19) hown168 (mvT hZ168 (tw169 hw)) (mvT hZ168 (tw170 hw)) (mvT hZ168 (tw171 hw)) (mvT hZ168 (tw172 hw)) (by decide) (backOf (W := 1) (rm_expect0 l Z a0 hw [] b1 i1 j1 i2 j2 (1 : Int32) k1 b3 b116 b163 b116 t1 t2 T346.heap n0 f353 f351 (⟨rfl, by decide, by decide⟩) pk_j1 pk_j2) hZ168 (tw172 hw) (tw171 hw) (by decide) (by decide)) (g := (mkF m 277 #[.val (.int p1), .val (.int p2), .val (.int p3), .val (.int p4), .val (.int p5), .val (.int p6), .val (.int (0 : Int32)), .val (.int i1), .val (.int j1), .val (.int i2), .val (.int j2), .val (.ref b1), .val (.ref b228), .val (.ref b272), .val (own_or .null b3), .val (own_or .null b116), .val (own_or .null b163)] [(.int (1 : Int32)), (.int j2), (.int i2), (.int j1), (.int i1), (.int (0 : Int32)), (.ref b1), (own_or .null b116)])) rfl (by rw [hml]; rfl) (argsL := [(.ref b1), (.int (0 : Int32)), (.int i1), (.int j1), (.int i2), (.int j2), (.int (1 : Int32))]) (rest := [(own_or .null b116)]) (lenOf pd_11 rfl) rfl (by show 2 * 0 + _ ≤ _; simp only [List.map, List.sum_cons, List.sum_nil, own_cat (own_orR (rfl : Value.isRef .null = true))]; decide) (hb hby at_277) (fun _ _ => ⟨rfl, eq378, (by decide : 17 + 0 ≤ _), (by decide : 62 + 0 ≤ _)⟩)
          dsimp only [Pt.U, Pt.locs, Pt.cells, Pt.slots] at X380 l380 y380 z380 st380 hQ380
          subst l380 y380 z380
          obtain ⟨rfl, N380q, eq380⟩ := hQ380
          have N381 := Fr.app N379 N380q
          refine GoW.step (fun _ k => st380 _ (Jvm.RoadKit.acmp (g := (mkF m 280 #[.val (.int p1), .val (.int p2), .val (.int p3), .val (.int p4), .val (.int p5), .val (.int p6), .val (.int (0 : Int32)), .val (.int i1), .val (.int j1), .val (.int i2), .val (.int j2), .val (.ref b1), .val (.ref b228), .val (.ref b272), .val (own_or .null b3), .val (own_or .null b116), .val (own_or .null b163)] [(.ref b116), (own_or .null b116)])) X380 hx rfl (own_orR (rfl : Value.isRef .null = true)) rfl (pc0 := 280) (pc' := 283) (same := true) rfl (hb hby at_280) rfl (decide_eq_true rfl) (by decide) (by decide) (XS.aload X380.here hx rfl (hb hby at_283) rfl (own_orR (rfl : Value.isRef .null = true)) (XS.aload X380.here hx rfl (hb hby at_285) rfl rfl (XS.iload X380.here hx rfl (hb hby at_287) rfl (XS.iload X380.here hx rfl (hb hby at_289) rfl (XS.iload X380.here hx rfl (hb hby at_291) rfl (XS.iload X380.here hx rfl (hb hby at_293) rfl (XS.iload X380.here hx rfl (hb hby at_295) rfl (XS.iconst X380.here hx rfl (hb hby at_297) k)))))))))) ?_
          show GoW p e below s _ _ _ T380 (mkF m 298 #[.val (.int p1), .val (.int p2), .val (.int p3), .val (.int p4), .val (.int p5), .val (.int p6), .val (.int (0 : Int32)), .val (.int i1), .val (.int j1), .val (.int i2), .val (.int j2), .val (.ref b1), .val (.ref b228), .val (.ref b272), .val (own_or .null b3), .val (own_or .null b116), .val (own_or .null b163)] [(.int (2 : Int32)), (.int j2), (.int i2), (.int j1), (.int i1), (.int (0 : Int32)), (.ref b1), (own_or .null b163)])
          obtain ⟨_, _, ⟨T382, L382, k382, n382⟩, -, X382, ⟨Lc382, hQ382, l382, y382, z382⟩, st382⟩ := Jvm.LawKit.callS X380 hx (y := xm19) hown168 (mvT hZ168 (tw169 hw)) (mvT hZ168 (tw170 hw)) (mvT hZ168 (tw171 hw)) (mvT hZ168 (tw172 hw)) (by decide) (backOf (W := 1) (rm_expect0 l Z a0 hw [] b1 i1 j1 i2 j2 (2 : Int32) k1 b3 b116 b163 b163 t1 t2 T346.heap n0 f353 f351 (⟨rfl, by decide, by decide⟩) pk_j1 pk_j2) hZ168 (tw172 hw) (tw171 hw) (by decide) (by decide)) (g := (mkF m 298 #[.val (.int p1), .val (.int p2), .val (.int p3), .val (.int p4), .val (.int p5), .val (.int p6), .val (.int (0 : Int32)), .val (.int i1), .val (.int j1), .val (.int i2), .val (.int j2), .val (.ref b1), .val (.ref b228), .val (.ref b272), .val (own_or .null b3), .val (own_or .null b116), .val (own_or .null b163)] [(.int (2 : Int32)), (.int j2), (.int i2), (.int j1), (.int i1), (.int (0 : Int32)), (.ref b1), (own_or .null b163)])) rfl (by rw [hml]; rfl) (argsL := [(.ref b1), (.int (0 : Int32)), (.int i1), (.int j1), (.int i2), (.int j2), (.int (2 : Int32))]) (rest := [(own_or .null b163)]) (lenOf pd_11 rfl) rfl (by show 2 * 0 + _ ≤ _; simp only [List.map, List.sum_cons, List.sum_nil, own_cat (own_orR (rfl : Value.isRef .null = true))]; decide) (hb hby at_298) (fun _ _ => ⟨rfl, eq380, (by decide : 17 + 0 ≤ _), (by decide : 62 + 0 ≤ _)⟩)
          dsimp only [Pt.U, Pt.locs, Pt.cells, Pt.slots] at X382 l382 y382 z382 st382 hQ382
          subst l382 y382 z382
          obtain ⟨rfl, N382q, eq382⟩ := hQ382
          have N383 := Fr.app N381 N382q
          refine GoW.step (fun _ k => st382 _ (Jvm.RoadKit.acmp (g := (mkF m 301 #[.val (.int p1), .val (.int p2), .val (.int p3), .val (.int p4), .val (.int p5), .val (.int p6), .val (.int (0 : Int32)), .val (.int i1), .val (.int j1), .val (.int i2), .val (.int j2), .val (.ref b1), .val (.ref b228), .val (.ref b272), .val (own_or .null b3), .val (own_or .null b116), .val (own_or .null b163)] [(.ref b163), (own_or .null b163)])) X382 hx rfl (own_orR (rfl : Value.isRef .null = true)) rfl (pc0 := 301) (pc' := 304) (same := true) rfl (hb hby at_301) rfl (decide_eq_true rfl) (by decide) (by decide) (XS.iconst X382.here hx rfl (hb hby at_304) (XS.goto X382.here hx rfl (pc0 := 305) (pc' := 309) rfl (hb hby at_305) (by decide) (by decide) k)))) ?_
          show GoW p e below s _ _ _ T382 (mkF m 309 #[.val (.int p1), .val (.int p2), .val (.int p3), .val (.int p4), .val (.int p5), .val (.int p6), .val (.int (0 : Int32)), .val (.int i1), .val (.int j1), .val (.int i2), .val (.int j2), .val (.ref b1), .val (.ref b228), .val (.ref b272), .val (own_or .null b3), .val (own_or .null b116), .val (own_or .null b163)] [(.int (1 : Int32))])
          have f384 := (Nat.le_trans (Nat.le_trans (Nat.le_trans (Nat.le_trans (Nat.le_trans (Nat.le_trans hk168 K202.1) (Keep.of_wr W206).1) E228.1) K258.1) E272.1) K346.1)
          exact GoW.retN X382 hS168 hx hlk (t := .boolean) Bd.returns (by simp) (hb hby at_309) eq382 f384 ⟨rfl, N383⟩ (by decide) (by decide)
        · refine GoW.step (fun _ k => XS.iload X258.here hx rfl (hb hby at_134) rfl (XS.iconst X258.here hx rfl (hb hby at_136) (XS.icmpNo X258.here hx rfl (hb hby at_137) rfl (flt (by decide)).1 (XS.aload X258.here hx rfl (hb hby at_140) rfl rfl k)))) ?_
          show GoW p e below s _ _ _ T258 (mkF m 142 #[.val (.int p1), .val (.int p2), .val (.int p3), .val (.int p4), .val (.int p5), .val (.int p6), .val (.int (1 : Int32)), .val (.int i1), .val (.int j1), .val (.int i2), .val (.int j2), .val (.ref b1), .val (.ref b228), .unset, .unset, .unset, .unset] [(.ref b228)])
          obtain ⟨T385, h385, X385, e385, E385, A385, D385, -, st385⟩ := newO X258 hx hZ168 hown168 (tw173 hw) (tw174 hw) (tw175 hw) rfl (g := (mkF m 142 #[.val (.int p1), .val (.int p2), .val (.int p3), .val (.int p4), .val (.int p5), .val (.int p6), .val (.int (1 : Int32)), .val (.int i1), .val (.int j1), .val (.int i2), .val (.int j2), .val (.ref b1), .val (.ref b228), .unset, .unset, .unset, .unset] [(.ref b228)])) rfl (hb hby at_142) (by decide) (by decide)
          obtain ⟨b385, g385⟩ : ∃ z, z = T258.heap.size := ⟨_, rfl⟩
          rw [← g385] at A385 D385 st385
          have f386 : Fld Z h385 b385 xs7 "target" xs8 .null := D385 (Or.inr (tw181 hw)) (ty := (.object xs9)) (by decide)
          have f387 : Fld Z h385 b385 xs7 "value" xs12 .null := D385 (Or.inr (tw183 hw)) (ty := (.object xs13)) (by decide)
          refine GoW.step (fun _ k => st385 _ (XS.dup X385.here hx rfl (hb hby at_145) rfl rfl (XS.aload X385.here hx rfl (hb hby at_146) rfl rfl (XS.iload X385.here hx rfl (hb hby at_148) rfl k)))) ?_
          show GoW p e below s _ _ _ T385 (mkF m 150 #[.val (.int p1), .val (.int p2), .val (.int p3), .val (.int p4), .val (.int p5), .val (.int p6), .val (.int (1 : Int32)), .val (.int i1), .val (.int j1), .val (.int i2), .val (.int j2), .val (.ref b1), .val (.ref b228), .unset, .unset, .unset, .unset] [(.int i1), (.ref b1), (.ref b385), (.ref b385), (.ref b228)])
          have ne388 : b1 ≠ b228 := Nat.ne_of_lt (Nat.lt_of_lt_of_le f208.lt (Nat.le_of_eq g228.symm))
          have f389 := (((f208.ext E228).keep K258 (ninS ne388 nin0)).ext E385)
          obtain ⟨cl390, Ar390, -, Sz390, Ng390, Hs390, Ft390⟩ := id f389
          have in390 : ¬ (i1 < 0 ∨ cl390.slots.size ≤ (i1).toNatClampNeg) := inb_of Sz390 pk_i1.2
          have at390 : cl390.slots[(i1).toNatClampNeg]? = some (.ref u1) := Hs390.at in390 pk_i1.1
          refine GoW.step (fun _ k => X385.aaload hx (j := i1) (v := (.ref u1)) (by rw [e385]; exact Ar390.1) (State.isArrayOf_alike hZ168.alike Ar390.2.1) rfl Ar390.2.2 in390 at390 (g := (mkF m 150 #[.val (.int p1), .val (.int p2), .val (.int p3), .val (.int p4), .val (.int p5), .val (.int p6), .val (.int (1 : Int32)), .val (.int i1), .val (.int j1), .val (.int i2), .val (.int j2), .val (.ref b1), .val (.ref b228), .unset, .unset, .unset, .unset] [(.int i1), (.ref b1), (.ref b385), (.ref b385), (.ref b228)])) rfl rfl (hb hby at_150) _ (XS.aload X385.here hx rfl (hb hby at_151) rfl rfl (XS.iload X385.here hx rfl (hb hby at_153) rfl k))) ?_
          show GoW p e below s _ _ _ T385 (mkF m 155 #[.val (.int p1), .val (.int p2), .val (.int p3), .val (.int p4), .val (.int p5), .val (.int p6), .val (.int (1 : Int32)), .val (.int i1), .val (.int j1), .val (.int i2), .val (.int j2), .val (.ref b1), .val (.ref b228), .unset, .unset, .unset, .unset] [(.int j1), (.ref b1), (.ref u1), (.ref b385), (.ref b385), (.ref b228)])
          obtain ⟨cl391, Ar391, -, Sz391, Ng391, Hs391, Ft391⟩ := id f389
          have in391 : ¬ (j1 < 0 ∨ cl391.slots.size ≤ (j1).toNatClampNeg) := inb_of Sz391 pk_j1.2
          have at391 : cl391.slots[(j1).toNatClampNeg]? = some (.ref t1) := Hs391.at in391 pk_j1.1
          refine GoW.step (fun _ k => X385.aaload hx (j := j1) (v := (.ref t1)) (by rw [e385]; exact Ar391.1) (State.isArrayOf_alike hZ168.alike Ar391.2.1) rfl Ar391.2.2 in391 at391 (g := (mkF m 155 #[.val (.int p1), .val (.int p2), .val (.int p3), .val (.int p4), .val (.int p5), .val (.int p6), .val (.int (1 : Int32)), .val (.int i1), .val (.int j1), .val (.int i2), .val (.int j2), .val (.ref b1), .val (.ref b228), .unset, .unset, .unset, .unset] [(.int j1), (.ref b1), (.ref u1), (.ref b385), (.ref b385), (.ref b228)])) rfl rfl (hb hby at_155) _ k) ?_
          show GoW p e below s _ _ _ T385 (mkF m 156 #[.val (.int p1), .val (.int p2), .val (.int p3), .val (.int p4), .val (.int p5), .val (.int p6), .val (.int (1 : Int32)), .val (.int i1), .val (.int j1), .val (.int i2), .val (.int j2), .val (.ref b1), .val (.ref b228), .unset, .unset, .unset, .unset] [(.ref t1), (.ref u1), (.ref b385), (.ref b385), (.ref b228)])
          have f394 := (Nat.le_trans f257 K258.1)
          have g395 := Nat.le_trans f394 (Nat.le_of_eq g385.symm)
          have f406 := (Nat.le_trans f394 E385.1)
          obtain ⟨_, _, ⟨T407, L407, k407, n407⟩, -, X407, ⟨Lc407, hQ407, l407, y407, z407⟩, st407⟩ := X385.specialBack hx (y := xm20) rfl hown168 (mvT hZ168 (tw176 hw)) (mvT hZ168 (tw177 hw)) (mvT hZ168 (tw178 hw)) (by decide) (backOf (W := 2) (rm_Assignment_new_0 l Z a0 hw [] b385 u1 t1 h385 n0 f406 A385 f386 g395 f387) hZ168 (tw178 hw) (tw175 hw) (by decide) (by decide)) (g := (mkF m 156 #[.val (.int p1), .val (.int p2), .val (.int p3), .val (.int p4), .val (.int p5), .val (.int p6), .val (.int (1 : Int32)), .val (.int i1), .val (.int j1), .val (.int i2), .val (.int j2), .val (.ref b1), .val (.ref b228), .unset, .unset, .unset, .unset] [(.ref t1), (.ref u1), (.ref b385), (.ref b385), (.ref b228)])) rfl (by rw [hml]; rfl) (Steps.refl _) (a := b385) (argsL := [(.ref u1), (.ref t1)]) (rest := [(.ref b385), (.ref b228)]) (lenOf pd_12 rfl) rfl (by show 2 * 0 + _ ≤ _; exact Nat.le_of_eq rfl) (hb hby at_156) (fun _ _ => ⟨rfl, e385, (by decide : 15 + 0 ≤ _), (by decide : 56 + 0 ≤ _)⟩)
          dsimp only [Pt.U, Pt.locs, Pt.cells, Pt.slots] at X407 l407 y407 z407 st407 hQ407
          subst l407 y407 z407
          obtain ⟨rfl, N407q, K407, P407_0, P407_1⟩ := hQ407
          have N408 := Fr.app N259 N407q
          refine GoW.step (fun _ k => st407.trans k) ?_
          show GoW p e below s _ _ _ T407 (mkF m 159 #[.val (.int p1), .val (.int p2), .val (.int p3), .val (.int p4), .val (.int p5), .val (.int p6), .val (.int (1 : Int32)), .val (.int i1), .val (.int j1), .val (.int i2), .val (.int j2), .val (.ref b1), .val (.ref b228), .unset, .unset, .unset, .unset] [(.ref b385), (.ref b228)])
          have f473 := (((f256.keep K258 (allS g237 all0)).ext E385).keep K407 (allS g395 all0))
          have f474 := (Nat.le_trans f406 K407.1)
          have f475 := (A228.keep K258)
          have ne476 : b228 ≠ b385 := Nat.ne_of_lt (Nat.lt_of_lt_of_le f475.lt (Nat.le_of_eq g385.symm))
          have f477 := ((P258_0.ext E385).keep K407 (ninS ne476 nin0))
          have f478 := (((A228.keep K258).ext E385).keep K407)
          have f479 := ((P258_1.ext E385).keep K407 (ninS ne476 nin0))
          have f480 := ((P258_2.ext E385).keep K407 (ninS ne476 nin0))
          have f481 := (A385.keep K407)
          obtain ⟨cq482, kq482, q482a, q482b, q482c⟩ := isOf hZ168 rfl f478
          obtain ⟨_, _, ⟨T482, L482, k482, n482⟩, -, X482, ⟨Lc482, hQ482, l482, y482, z482⟩, st482⟩ := X407.interfaceBack hx (xi := xm30) (y := xm28) hown168 (mvT hZ168 (tw184 hw)) (mvT hZ168 (tw185 hw)) (mvT hZ168 (tw186 hw)) (mvT hZ168 (tw187 hw)) (mvT hZ168 (tw188 hw)) (mvT hZ168 (tw189 hw)) (mvT hZ168 (tw190 hw)) (mvT hZ168 (tw130 hw)) (by decide) (backOf (W := 0) (rm_ArrayList_add_0 l Z a0 hw [] b228 b385 de kde T407.heap n0 f474 f477 f478 g237 f479 f480 Z_A_de f473 Z_S_DEFAULTCAPACITY_EMPTY_ELEMENTDATA f481) hZ168 (tw191 hw) (tw92 hw) (by decide) (by decide)) q482a q482b q482c (g := (mkF m 159 #[.val (.int p1), .val (.int p2), .val (.int p3), .val (.int p4), .val (.int p5), .val (.int p6), .val (.int (1 : Int32)), .val (.int i1), .val (.int j1), .val (.int i2), .val (.int j2), .val (.ref b1), .val (.ref b228), .unset, .unset, .unset, .unset] [(.ref b385), (.ref b228)])) rfl (by rw [hml]; rfl) (Steps.refl _) (argsL := [(.ref b385)]) (rest := []) (lenOf pd_17 rfl) rfl (by show 2 * 0 + _ ≤ _; exact Nat.le_of_eq rfl) (hb hby at_159) (fun _ _ => ⟨rfl, rfl, (by decide : 15 + 1 ≤ _), (by decide : 56 + 10 ≤ _)⟩)
          dsimp only [Pt.U, Pt.locs, Pt.cells, Pt.slots] at X482 l482 y482 z482 st482 hQ482
          subst l482 y482 z482
          obtain ⟨b425_439_444_467_482, k425_439_444_467_482, rfl, N482q, K482, P482_0, P482_1, P482_2, P482_3, P482_4, P482_5⟩ := hQ482
          have N483 := Fr.app N408 N482q
          refine GoW.step (fun _ k => st482.trans (XS.pop X482.here hx rfl (hb hby at_164) rfl rfl (XS.iload X482.here hx rfl (hb hby at_165) rfl (XS.iconst X482.here hx rfl (hb hby at_167) (XS.icmpYes X482.here hx rfl (pc0 := 168) (pc' := 196) rfl (hb hby at_168) rfl (tlt (by decide)).1 (by decide) (by decide) k))))) ?_
          show GoW p e below s _ _ _ T482 (mkF m 196 #[.val (.int p1), .val (.int p2), .val (.int p3), .val (.int p4), .val (.int p5), .val (.int p6), .val (.int (1 : Int32)), .val (.int i1), .val (.int j1), .val (.int i2), .val (.int j2), .val (.ref b1), .val (.ref b228), .unset, .unset, .unset, .unset] [])
          obtain ⟨T484, h484, X484, e484, E484, A484, D484, -, st484⟩ := newO X482 hx hZ168 hown168 (tw114 hw) (tw115 hw) (tw116 hw) rfl (g := (mkF m 196 #[.val (.int p1), .val (.int p2), .val (.int p3), .val (.int p4), .val (.int p5), .val (.int p6), .val (.int (1 : Int32)), .val (.int i1), .val (.int j1), .val (.int i2), .val (.int j2), .val (.ref b1), .val (.ref b228), .unset, .unset, .unset, .unset] [])) rfl (hb hby at_196) (by decide) (by decide)
          obtain ⟨b484, g484⟩ : ∃ z, z = T482.heap.size := ⟨_, rfl⟩
          rw [← g484] at A484 D484 st484
          have f485 : Fld Z h484 b484 xs4 "replacements" xs11 .null := D484 (Or.inr (tw124 hw)) (ty := (.array (.object xs13))) (by decide)
          refine GoW.step (fun _ k => st484 _ (XS.dup X484.here hx rfl (hb hby at_199) rfl rfl (XS.iconst X484.here hx rfl (hb hby at_200) (XS.aload X484.here hx rfl (hb hby at_201) rfl rfl k)))) ?_
          show GoW p e below s _ _ _ T484 (mkF m 203 #[.val (.int p1), .val (.int p2), .val (.int p3), .val (.int p4), .val (.int p5), .val (.int p6), .val (.int (1 : Int32)), .val (.int i1), .val (.int j1), .val (.int i2), .val (.int j2), .val (.ref b1), .val (.ref b228), .unset, .unset, .unset, .unset] [(.ref b228), (.int (3 : Int32)), (.ref b484), (.ref b484)])
          have f492 := (Nat.le_trans f474 K482.1)
          have g493 := Nat.le_trans f492 (Nat.le_of_eq g484.symm)
          have f535 := (f478.keep K482)
          have ne536 : b228 ≠ b484 := Nat.ne_of_lt (Nat.lt_of_lt_of_le f535.lt (Nat.le_of_eq g484.symm))
          have ne568 : b425_439_444_467_482 ≠ b484 := Nat.ne_of_lt (Nat.lt_of_lt_of_le P482_4.lt (Nat.le_of_eq g484.symm))
          have f591 := (f481.keep K482)
          have ne592 : b385 ≠ b484 := Nat.ne_of_lt (Nat.lt_of_lt_of_le f591.lt (Nat.le_of_eq g484.symm))
          have f599 := (((((f213.ext E228).keep K258).ext E385).keep K407).keep K482)
          have ne600 : u1 ≠ b484 := Nat.ne_of_lt (Nat.lt_of_lt_of_le f599.lt (Nat.le_of_eq g484.symm))
          have f638 := (Nat.le_trans f492 E484.1)
          have f639 := ((f478.keep K482).ext E484)
          have f640 := (P482_0.ext E484)
          have f641 := (P482_2.ext E484)
          have f642 := (P482_1.ext E484)
          have f643 := (P482_4.ext E484)
          have f644 := ((f481.keep K482).ext E484)
          have f645 := ((P407_0.keep K482 (ninS (Ne.symm ne476) nin0)).ext E484)
          have f646 := ((((((f213.ext E228).keep K258).ext E385).keep K407).keep K482).ext E484)
          have ne647 : u1 ≠ b228 := Nat.ne_of_lt (Nat.lt_of_lt_of_le f213.lt (Nat.le_of_eq g228.symm))
          have f648 := ((f213.ext E228).keep K258)
          have ne649 : u1 ≠ b385 := Nat.ne_of_lt (Nat.lt_of_lt_of_le f648.lt (Nat.le_of_eq g385.symm))
          have f650 := ((((((f223.ext E228).keep K258 (ninS ne647 nin0)).ext E385).keep K407 (ninS ne649 nin0)).keep K482 (ninS ne647 nin0)).ext E484)
          have f651 := ((P407_1.keep K482 (ninS (Ne.symm ne476) nin0)).ext E484)
          have f652 := ((((((f224.ext E228).keep K258).ext E385).keep K407).keep K482).ext E484)
          obtain ⟨_, _, ⟨T653, L653, k653, n653⟩, -, X653, ⟨Lc653, hQ653, l653, y653, z653⟩, st653⟩ := X484.specialBack hx (y := xm18) rfl hown168 (mvT hZ168 (tw117 hw)) (mvT hZ168 (tw118 hw)) (mvT hZ168 (tw119 hw)) (by decide) (backOf (W := 1) (rm_Substitution_new_1 l Z a0 hw [] b484 b228 b425_439_444_467_482 k425_439_444_467_482 b385 u1 i1 t1 h484 n0 f638 A484 f485 g493 f639 f640 ne536 f641 f642 f643 ne568 f644 f645 ne592 f646 f650 ne600 f651 hi1 f652) hZ168 (tw119 hw) (tw116 hw) (by decide) (by decide)) (g := (mkF m 203 #[.val (.int p1), .val (.int p2), .val (.int p3), .val (.int p4), .val (.int p5), .val (.int p6), .val (.int (1 : Int32)), .val (.int i1), .val (.int j1), .val (.int i2), .val (.int j2), .val (.ref b1), .val (.ref b228), .unset, .unset, .unset, .unset] [(.ref b228), (.int (3 : Int32)), (.ref b484), (.ref b484)])) rfl (by rw [hml]; rfl) (Steps.refl _) (a := b484) (argsL := [(.int (3 : Int32)), (.ref b228)]) (rest := [(.ref b484)]) (lenOf pd_9 rfl) rfl (by show 2 * 0 + _ ≤ _; exact Nat.le_of_eq rfl) (hb hby at_203) (fun _ _ => ⟨rfl, e484, (by decide : 17 + 2 ≤ _), (by decide : 67 + 7 ≤ _)⟩)
          dsimp only [Pt.U, Pt.locs, Pt.cells, Pt.slots] at X653 l653 y653 z653 st653 hQ653
          subst l653 y653 z653
          obtain ⟨b487_653, k487_653, rfl, N653q, K653, P653_0, P653_1, P653_2, P653_3⟩ := hQ653
          have N654 := Fr.app N483 N653q
          refine GoW.step (fun _ k => st653.trans (XS.astore X653.here hx rfl (hb hby at_206) rfl rfl (l' := #[.val (.int p1), .val (.int p2), .val (.int p3), .val (.int p4), .val (.int p5), .val (.int p6), .val (.int (1 : Int32)), .val (.int i1), .val (.int j1), .val (.int i2), .val (.int j2), .val (.ref b1), .val (.ref b228), .val (.ref b484), .unset, .unset, .unset]) rfl (XS.aload X653.here hx rfl (hb hby at_208) rfl rfl (XS.aload X653.here hx rfl (hb hby at_210) rfl rfl (XS.iconst X653.here hx rfl (hb hby at_212) k))))) ?_
          show GoW p e below s _ _ _ T653 (mkF m 213 #[.val (.int p1), .val (.int p2), .val (.int p3), .val (.int p4), .val (.int p5), .val (.int p6), .val (.int (1 : Int32)), .val (.int i1), .val (.int j1), .val (.int i2), .val (.int j2), .val (.ref b1), .val (.ref b228), .val (.ref b484), .unset, .unset, .unset] [(.int (0 : Int32)), (.ref b1), (.ref b484)])
          have f655 := ((f208.ext E228).keep K258 (ninS ne388 nin0))
          have ne656 : b1 ≠ b385 := Nat.ne_of_lt (Nat.lt_of_lt_of_le f655.lt (Nat.le_of_eq g385.symm))
          have f657 := ((f389.keep K407 (ninS ne656 nin0)).keep K482 (ninS ne388 nin0))
          have ne658 : b1 ≠ b484 := Nat.ne_of_lt (Nat.lt_of_lt_of_le f657.lt (Nat.le_of_eq g484.symm))
          have f659 := ((((f389.keep K407 (ninS ne656 nin0)).keep K482 (ninS ne388 nin0)).ext E484).keep K653 (ninS ne658 nin0))
          obtain ⟨cl660, Ar660, -, Sz660, Ng660, Hs660, Ft660⟩ := id f659
          have in660 : ¬ ((0 : Int32) < 0 ∨ cl660.slots.size ≤ ((0 : Int32)).toNatClampNeg) := (inb_of Sz660 ⟨by decide, by decide⟩)
          have at660 : cl660.slots[((0 : Int32)).toNatClampNeg]? = some (.ref b3) := Hs660.at in660 rfl
          refine GoW.step (fun _ k => X653.aaload hx (j := (0 : Int32)) (v := (.ref b3)) (by exact Ar660.1) (State.isArrayOf_alike hZ168.alike Ar660.2.1) rfl Ar660.2.2 in660 at660 (g := (mkF m 213 #[.val (.int p1), .val (.int p2), .val (.int p3), .val (.int p4), .val (.int p5), .val (.int p6), .val (.int (1 : Int32)), .val (.int i1), .val (.int j1), .val (.int i2), .val (.int j2), .val (.ref b1), .val (.ref b228), .val (.ref b484), .unset, .unset, .unset] [(.int (0 : Int32)), (.ref b1), (.ref b484)])) rfl rfl (hb hby at_213) _ k) ?_
          show GoW p e below s _ _ _ T653 (mkF m 214 #[.val (.int p1), .val (.int p2), .val (.int p3), .val (.int p4), .val (.int p5), .val (.int p6), .val (.int (1 : Int32)), .val (.int i1), .val (.int j1), .val (.int i2), .val (.int j2), .val (.ref b1), .val (.ref b228), .val (.ref b484), .unset, .unset, .unset] [(.ref b3), (.ref b484)])
          have f661 := (Nat.le_trans f638 K653.1)
          have f662 := (((((((f210.ext E228).keep K258).ext E385).keep K407).keep K482).ext E484).keep K653)
          have ne663 : b3 ≠ b228 := Nat.ne_of_lt (Nat.lt_of_lt_of_le f210.lt (Nat.le_of_eq g228.symm))
          have f664 := ((f210.ext E228).keep K258)
          have ne665 : b3 ≠ b385 := Nat.ne_of_lt (Nat.lt_of_lt_of_le f664.lt (Nat.le_of_eq g385.symm))
          have f666 := (((f664.ext E385).keep K407).keep K482)
          have ne667 : b3 ≠ b484 := Nat.ne_of_lt (Nat.lt_of_lt_of_le f666.lt (Nat.le_of_eq g484.symm))
          have f668 := (((((((f218.ext E228).keep K258 (ninS ne663 nin0)).ext E385).keep K407 (ninS ne665 nin0)).keep K482 (ninS ne663 nin0)).ext E484).keep K653 (ninS ne667 nin0))
          have f670 := (A484.keep K653)
          obtain ⟨cq669, kq669, q669a, q669b, q669c⟩ := isOf hZ168 rfl f670
          obtain ⟨_, _, ⟨T669, L669, k669, n669⟩, -, X669, ⟨Lc669, hQ669, l669, y669, z669⟩, st669⟩ := X653.virtualBack hx (y := xm11) (z := xm11) hown168 (mvT hZ168 (tw159 hw)) (mvT hZ168 (tw160 hw)) (notFace_of_selects (args := #[]) (mvT hZ168 (tw162 hw))) (mvT hZ168 (tw162 hw)) (mvT hZ168 (tw161 hw)) (by decide) (backOf (W := 0) (rm_variable0 l Z a0 hw [] b484 b3 b487_653 k487_653 ((own_at i1 (0 : Int32) (.ref t1) .null)) ((own_at i1 (1 : Int32) (.ref t1) .null)) ((own_at i1 (2 : Int32) (.ref t1) .null)) T653.heap n0 f661 P653_0 P653_2 f662 f668 ((own_atR (rfl : Value.isRef (.ref t1) = true) (rfl : Value.isRef .null = true)))) hZ168 (tw163 hw) (tw116 hw) (by decide) (by decide)) q669a q669c (g := (mkF m 214 #[.val (.int p1), .val (.int p2), .val (.int p3), .val (.int p4), .val (.int p5), .val (.int p6), .val (.int (1 : Int32)), .val (.int i1), .val (.int j1), .val (.int i2), .val (.int j2), .val (.ref b1), .val (.ref b228), .val (.ref b484), .unset, .unset, .unset] [(.ref b3), (.ref b484)])) rfl (by rw [hml]; rfl) (Steps.refl _) (argsL := [(.ref b3)]) (rest := []) (lenOf pd_10 rfl) rfl (by show 2 * 0 + _ ≤ _; exact Nat.le_of_eq rfl) (hb hby at_214) (fun _ _ => ⟨rfl, rfl, (by decide : 19 + 0 ≤ _), (by decide : 74 + 0 ≤ _)⟩)
          dsimp only [Pt.U, Pt.locs, Pt.cells, Pt.slots] at X669 l669 y669 z669 st669 hQ669
          subst l669 y669 z669
          obtain ⟨rfl, N669q, eq669⟩ := hQ669
          have N671 := Fr.app N654 N669q
          refine GoW.step (fun _ k => st669.trans (XS.astoreS X669.here hx rfl (hb hby at_217) rfl (own_orR (own_atR (rfl : Value.isRef (.ref t1) = true) (rfl : Value.isRef .null = true))) (own_cat (own_orR (own_atR (rfl : Value.isRef (.ref t1) = true) (rfl : Value.isRef .null = true)))) rfl (Or.inl rfl) (XS.aload X669.here hx rfl (hb hby at_219) rfl rfl (XS.aload X669.here hx rfl (hb hby at_221) rfl rfl (XS.iconst X669.here hx rfl (hb hby at_223) k))))) ?_
          show GoW p e below s _ _ _ T669 (mkF m 224 #[.val (.int p1), .val (.int p2), .val (.int p3), .val (.int p4), .val (.int p5), .val (.int p6), .val (.int (1 : Int32)), .val (.int i1), .val (.int j1), .val (.int i2), .val (.int j2), .val (.ref b1), .val (.ref b228), .val (.ref b484), .val (own_or ((own_at i1 (0 : Int32) (.ref t1) .null)) b3), .unset, .unset] [(.int (1 : Int32)), (.ref b1), (.ref b484)])
          obtain ⟨cl672, Ar672, -, Sz672, Ng672, Hs672, Ft672⟩ := id f659
          have in672 : ¬ ((1 : Int32) < 0 ∨ cl672.slots.size ≤ ((1 : Int32)).toNatClampNeg) := (inb_of Sz672 ⟨by decide, by decide⟩)
          have at672 : cl672.slots[((1 : Int32)).toNatClampNeg]? = some (.ref b116) := Hs672.at in672 rfl
          refine GoW.step (fun _ k => X669.aaload hx (j := (1 : Int32)) (v := (.ref b116)) (by rw [eq669]; exact Ar672.1) (State.isArrayOf_alike hZ168.alike Ar672.2.1) rfl Ar672.2.2 in672 at672 (g := (mkF m 224 #[.val (.int p1), .val (.int p2), .val (.int p3), .val (.int p4), .val (.int p5), .val (.int p6), .val (.int (1 : Int32)), .val (.int i1), .val (.int j1), .val (.int i2), .val (.int j2), .val (.ref b1), .val (.ref b228), .val (.ref b484), .val (own_or ((own_at i1 (0 : Int32) (.ref t1) .null)) b3), .unset, .unset] [(.int (1 : Int32)), (.ref b1), (.ref b484)])) rfl rfl (hb hby at_224) _ k) ?_
          show GoW p e below s _ _ _ T669 (mkF m 225 #[.val (.int p1), .val (.int p2), .val (.int p3), .val (.int p4), .val (.int p5), .val (.int p6), .val (.int (1 : Int32)), .val (.int i1), .val (.int j1), .val (.int i2), .val (.int j2), .val (.ref b1), .val (.ref b228), .val (.ref b484), .val (own_or ((own_at i1 (0 : Int32) (.ref t1) .null)) b3), .unset, .unset] [(.ref b116), (.ref b484)])
          have f673 := (((((((f211.ext E228).keep K258).ext E385).keep K407).keep K482).ext E484).keep K653)
          have ne674 : b116 ≠ b228 := Nat.ne_of_lt (Nat.lt_of_lt_of_le f211.lt (Nat.le_of_eq g228.symm))
          have f675 := ((f211.ext E228).keep K258)
          have ne676 : b116 ≠ b385 := Nat.ne_of_lt (Nat.lt_of_lt_of_le f675.lt (Nat.le_of_eq g385.symm))
          have f677 := (((f675.ext E385).keep K407).keep K482)
          have ne678 : b116 ≠ b484 := Nat.ne_of_lt (Nat.lt_of_lt_of_le f677.lt (Nat.le_of_eq g484.symm))
          have f679 := (((((((f221.ext E228).keep K258 (ninS ne674 nin0)).ext E385).keep K407 (ninS ne676 nin0)).keep K482 (ninS ne674 nin0)).ext E484).keep K653 (ninS ne678 nin0))
          obtain ⟨cq680, kq680, q680a, q680b, q680c⟩ := isOf hZ168 eq669 f670
          obtain ⟨_, _, ⟨T680, L680, k680, n680⟩, -, X680, ⟨Lc680, hQ680, l680, y680, z680⟩, st680⟩ := X669.virtualBack hx (y := xm11) (z := xm11) hown168 (mvT hZ168 (tw159 hw)) (mvT hZ168 (tw160 hw)) (notFace_of_selects (args := #[]) (mvT hZ168 (tw162 hw))) (mvT hZ168 (tw162 hw)) (mvT hZ168 (tw161 hw)) (by decide) (backOf (W := 0) (rm_variable1 l Z a0 hw [] b484 b116 b487_653 k487_653 ((own_at i1 (0 : Int32) (.ref t1) .null)) ((own_at i1 (1 : Int32) (.ref t1) .null)) ((own_at i1 (2 : Int32) (.ref t1) .null)) T653.heap n0 f661 P653_0 P653_2 f673 f679 ((own_atR (rfl : Value.isRef (.ref t1) = true) (rfl : Value.isRef .null = true)))) hZ168 (tw163 hw) (tw116 hw) (by decide) (by decide)) q680a q680c (g := (mkF m 225 #[.val (.int p1), .val (.int p2), .val (.int p3), .val (.int p4), .val (.int p5), .val (.int p6), .val (.int (1 : Int32)), .val (.int i1), .val (.int j1), .val (.int i2), .val (.int j2), .val (.ref b1), .val (.ref b228), .val (.ref b484), .val (own_or ((own_at i1 (0 : Int32) (.ref t1) .null)) b3), .unset, .unset] [(.ref b116), (.ref b484)])) rfl (by rw [hml]; rfl) (Steps.refl _) (argsL := [(.ref b116)]) (rest := []) (lenOf pd_10 rfl) rfl (by show 2 * 0 + _ ≤ _; exact Nat.le_of_eq rfl) (hb hby at_225) (fun _ _ => ⟨rfl, eq669, (by decide : 19 + 0 ≤ _), (by decide : 74 + 0 ≤ _)⟩)
          dsimp only [Pt.U, Pt.locs, Pt.cells, Pt.slots] at X680 l680 y680 z680 st680 hQ680
          subst l680 y680 z680
          obtain ⟨rfl, N680q, eq680⟩ := hQ680
          have N681 := Fr.app N671 N680q
          refine GoW.step (fun _ k => st680.trans (XS.astoreS X680.here hx rfl (hb hby at_228) rfl (own_orR (own_atR (rfl : Value.isRef (.ref t1) = true) (rfl : Value.isRef .null = true))) (own_cat (own_orR (own_atR (rfl : Value.isRef (.ref t1) = true) (rfl : Value.isRef .null = true)))) rfl (Or.inl rfl) (XS.aload X680.here hx rfl (hb hby at_230) rfl rfl (XS.aload X680.here hx rfl (hb hby at_232) rfl rfl (XS.iconst X680.here hx rfl (hb hby at_234) k))))) ?_
          show GoW p e below s _ _ _ T680 (mkF m 235 #[.val (.int p1), .val (.int p2), .val (.int p3), .val (.int p4), .val (.int p5), .val (.int p6), .val (.int (1 : Int32)), .val (.int i1), .val (.int j1), .val (.int i2), .val (.int j2), .val (.ref b1), .val (.ref b228), .val (.ref b484), .val (own_or ((own_at i1 (0 : Int32) (.ref t1) .null)) b3), .val (own_or ((own_at i1 (1 : Int32) (.ref t1) .null)) b116), .unset] [(.int (2 : Int32)), (.ref b1), (.ref b484)])
          obtain ⟨cl682, Ar682, -, Sz682, Ng682, Hs682, Ft682⟩ := id f659
          have in682 : ¬ ((2 : Int32) < 0 ∨ cl682.slots.size ≤ ((2 : Int32)).toNatClampNeg) := (inb_of Sz682 ⟨by decide, by decide⟩)
          have at682 : cl682.slots[((2 : Int32)).toNatClampNeg]? = some (.ref b163) := Hs682.at in682 rfl
          refine GoW.step (fun _ k => X680.aaload hx (j := (2 : Int32)) (v := (.ref b163)) (by rw [eq680]; exact Ar682.1) (State.isArrayOf_alike hZ168.alike Ar682.2.1) rfl Ar682.2.2 in682 at682 (g := (mkF m 235 #[.val (.int p1), .val (.int p2), .val (.int p3), .val (.int p4), .val (.int p5), .val (.int p6), .val (.int (1 : Int32)), .val (.int i1), .val (.int j1), .val (.int i2), .val (.int j2), .val (.ref b1), .val (.ref b228), .val (.ref b484), .val (own_or ((own_at i1 (0 : Int32) (.ref t1) .null)) b3), .val (own_or ((own_at i1 (1 : Int32) (.ref t1) .null)) b116), .unset] [(.int (2 : Int32)), (.ref b1), (.ref b484)])) rfl rfl (hb hby at_235) _ k) ?_
          show GoW p e below s _ _ _ T680 (mkF m 236 #[.val (.int p1), .val (.int p2), .val (.int p3), .val (.int p4), .val (.int p5), .val (.int p6), .val (.int (1 : Int32)), .val (.int i1), .val (.int j1), .val (.int i2), .val (.int j2), .val (.ref b1), .val (.ref b228), .val (.ref b484), .val (own_or ((own_at i1 (0 : Int32) (.ref t1) .null)) b3), .val (own_or ((own_at i1 (1 : Int32) (.ref t1) .null)) b116), .unset] [(.ref b163), (.ref b484)])
          have f683 := (((((((f212.ext E228).keep K258).ext E385).keep K407).keep K482).ext E484).keep K653)
          have ne684 : b163 ≠ b228 := Nat.ne_of_lt (Nat.lt_of_lt_of_le f212.lt (Nat.le_of_eq g228.symm))
          have f685 := ((f212.ext E228).keep K258)
          have ne686 : b163 ≠ b385 := Nat.ne_of_lt (Nat.lt_of_lt_of_le f685.lt (Nat.le_of_eq g385.symm))
          have f687 := (((f685.ext E385).keep K407).keep K482)
          have ne688 : b163 ≠ b484 := Nat.ne_of_lt (Nat.lt_of_lt_of_le f687.lt (Nat.le_of_eq g484.symm))
          have f689 := (((((((f222.ext E228).keep K258 (ninS ne684 nin0)).ext E385).keep K407 (ninS ne686 nin0)).keep K482 (ninS ne684 nin0)).ext E484).keep K653 (ninS ne688 nin0))
          obtain ⟨cq690, kq690, q690a, q690b, q690c⟩ := isOf hZ168 eq680 f670
          obtain ⟨_, _, ⟨T690, L690, k690, n690⟩, -, X690, ⟨Lc690, hQ690, l690, y690, z690⟩, st690⟩ := X680.virtualBack hx (y := xm11) (z := xm11) hown168 (mvT hZ168 (tw159 hw)) (mvT hZ168 (tw160 hw)) (notFace_of_selects (args := #[]) (mvT hZ168 (tw162 hw))) (mvT hZ168 (tw162 hw)) (mvT hZ168 (tw161 hw)) (by decide) (backOf (W := 0) (rm_variable2 l Z a0 hw [] b484 b163 b487_653 k487_653 ((own_at i1 (0 : Int32) (.ref t1) .null)) ((own_at i1 (1 : Int32) (.ref t1) .null)) ((own_at i1 (2 : Int32) (.ref t1) .null)) T653.heap n0 f661 P653_0 P653_2 f683 f689 ((own_atR (rfl : Value.isRef (.ref t1) = true) (rfl : Value.isRef .null = true)))) hZ168 (tw163 hw) (tw116 hw) (by decide) (by decide)) q690a q690c (g := (mkF m 236 #[.val (.int p1), .val (.int p2), .val (.int p3), .val (.int p4), .val (.int p5), .val (.int p6), .val (.int (1 : Int32)), .val (.int i1), .val (.int j1), .val (.int i2), .val (.int j2), .val (.ref b1), .val (.ref b228), .val (.ref b484), .val (own_or ((own_at i1 (0 : Int32) (.ref t1) .null)) b3), .val (own_or ((own_at i1 (1 : Int32) (.ref t1) .null)) b116), .unset] [(.ref b163), (.ref b484)])) rfl (by rw [hml]; rfl) (Steps.refl _) (argsL := [(.ref b163)]) (rest := []) (lenOf pd_10 rfl) rfl (by show 2 * 0 + _ ≤ _; exact Nat.le_of_eq rfl) (hb hby at_236) (fun _ _ => ⟨rfl, eq680, (by decide : 19 + 0 ≤ _), (by decide : 74 + 0 ≤ _)⟩)
          dsimp only [Pt.U, Pt.locs, Pt.cells, Pt.slots] at X690 l690 y690 z690 st690 hQ690
          subst l690 y690 z690
          obtain ⟨rfl, N690q, eq690⟩ := hQ690
          have N691 := Fr.app N681 N690q
          refine GoW.step (fun _ k => st690.trans (XS.astoreS X690.here hx rfl (hb hby at_239) rfl (own_orR (own_atR (rfl : Value.isRef (.ref t1) = true) (rfl : Value.isRef .null = true))) (own_cat (own_orR (own_atR (rfl : Value.isRef (.ref t1) = true) (rfl : Value.isRef .null = true)))) rfl (Or.inl rfl) (XS.aload X690.here hx rfl (hb hby at_241) rfl (own_orR (own_atR (rfl : Value.isRef (.ref t1) = true) (rfl : Value.isRef .null = true))) (XS.aload X690.here hx rfl (hb hby at_243) rfl rfl (XS.iload X690.here hx rfl (hb hby at_245) rfl (XS.iload X690.here hx rfl (hb hby at_247) rfl (XS.iload X690.here hx rfl (hb hby at_249) rfl (XS.iload X690.here hx rfl (hb hby at_251) rfl (XS.iload X690.here hx rfl (hb hby at_253) rfl (XS.iconst X690.here hx rfl (hb hby at_255) k)))))))))) ?_
          show GoW p e below s _ _ _ T690 (mkF m 256 #[.val (.int p1), .val (.int p2), .val (.int p3), .val (.int p4), .val (.int p5), .val (.int p6), .val (.int (1 : Int32)), .val (.int i1), .val (.int j1), .val (.int i2), .val (.int j2), .val (.ref b1), .val (.ref b228), .val (.ref b484), .val (own_or ((own_at i1 (0 : Int32) (.ref t1) .null)) b3), .val (own_or ((own_at i1 (1 : Int32) (.ref t1) .null)) b116), .val (own_or ((own_at i1 (2 : Int32) (.ref t1) .null)) b163)] [(.int (0 : Int32)), (.int j2), (.int i2), (.int j1), (.int i1), (.int (1 : Int32)), (.ref b1), (own_or ((own_at i1 (0 : Int32) (.ref t1) .null)) b3)])
          obtain ⟨_, _, ⟨T692, L692, k692, n692⟩, -, X692, ⟨Lc692, hQ692, l692, y692, z692⟩, st692⟩ := Jvm.LawKit.callS X690 hx (y := xm19) hown168 (mvT hZ168 (tw169 hw)) (mvT hZ168 (tw170 hw)) (mvT hZ168 (tw171 hw)) (mvT hZ168 (tw172 hw)) (by decide) (backOf (W := 1) (rm_expect1 l Z a0 hw [] b1 i1 j1 i2 j2 (0 : Int32) k1 b3 b116 b163 b3 t1 t2 T653.heap n0 f661 f659 (⟨rfl, by decide, by decide⟩) pk_j1 pk_j2) hZ168 (tw172 hw) (tw171 hw) (by decide) (by decide)) (g := (mkF m 256 #[.val (.int p1), .val (.int p2), .val (.int p3), .val (.int p4), .val (.int p5), .val (.int p6), .val (.int (1 : Int32)), .val (.int i1), .val (.int j1), .val (.int i2), .val (.int j2), .val (.ref b1), .val (.ref b228), .val (.ref b484), .val (own_or ((own_at i1 (0 : Int32) (.ref t1) .null)) b3), .val (own_or ((own_at i1 (1 : Int32) (.ref t1) .null)) b116), .val (own_or ((own_at i1 (2 : Int32) (.ref t1) .null)) b163)] [(.int (0 : Int32)), (.int j2), (.int i2), (.int j1), (.int i1), (.int (1 : Int32)), (.ref b1), (own_or ((own_at i1 (0 : Int32) (.ref t1) .null)) b3)])) rfl (by rw [hml]; rfl) (argsL := [(.ref b1), (.int (1 : Int32)), (.int i1), (.int j1), (.int i2), (.int j2), (.int (0 : Int32))]) (rest := [(own_or ((own_at i1 (0 : Int32) (.ref t1) .null)) b3)]) (lenOf pd_11 rfl) rfl (by show 2 * 0 + _ ≤ _; simp only [List.map, List.sum_cons, List.sum_nil, own_cat ((own_orR (own_atR (rfl : Value.isRef (.ref t1) = true) (rfl : Value.isRef .null = true))))]; decide) (hb hby at_256) (fun _ _ => ⟨rfl, eq690, (by decide : 19 + 0 ≤ _), (by decide : 74 + 0 ≤ _)⟩)
          dsimp only [Pt.U, Pt.locs, Pt.cells, Pt.slots] at X692 l692 y692 z692 st692 hQ692
          subst l692 y692 z692
          obtain ⟨rfl, N692q, eq692⟩ := hQ692
          have N693 := Fr.app N691 N692q
          refine GoW.step (fun _ k => st692 _ (Jvm.RoadKit.acmp (g := (mkF m 259 #[.val (.int p1), .val (.int p2), .val (.int p3), .val (.int p4), .val (.int p5), .val (.int p6), .val (.int (1 : Int32)), .val (.int i1), .val (.int j1), .val (.int i2), .val (.int j2), .val (.ref b1), .val (.ref b228), .val (.ref b484), .val (own_or ((own_at i1 (0 : Int32) (.ref t1) .null)) b3), .val (own_or ((own_at i1 (1 : Int32) (.ref t1) .null)) b116), .val (own_or ((own_at i1 (2 : Int32) (.ref t1) .null)) b163)] [(.ref (own_e1 i1 (0 : Int32) b3 t1)), (own_or ((own_at i1 (0 : Int32) (.ref t1) .null)) b3)])) X692 hx rfl (own_orR (own_atR (rfl : Value.isRef (.ref t1) = true) (rfl : Value.isRef .null = true))) rfl (pc0 := 259) (pc' := 262) (same := true) rfl (hb hby at_259) rfl (decide_eq_true (own_fin1 i1 (0 : Int32) b3 t1)) (by decide) (by decide) (XS.aload X692.here hx rfl (hb hby at_262) rfl (own_orR (own_atR (rfl : Value.isRef (.ref t1) = true) (rfl : Value.isRef .null = true))) (XS.aload X692.here hx rfl (hb hby at_264) rfl rfl (XS.iload X692.here hx rfl (hb hby at_266) rfl (XS.iload X692.here hx rfl (hb hby at_268) rfl (XS.iload X692.here hx rfl (hb hby at_270) rfl (XS.iload X692.here hx rfl (hb hby at_272) rfl (XS.iload X692.here hx rfl (hb hby at_274) rfl (XS.iconst X692.here hx rfl (hb hby at_276) k)))))))))) ?_
          show GoW p e below s _ _ _ T692 (mkF m 277 #[.val (.int p1), .val (.int p2), .val (.int p3), .val (.int p4), .val (.int p5), .val (.int p6), .val (.int (1 : Int32)), .val (.int i1), .val (.int j1), .val (.int i2), .val (.int j2), .val (.ref b1), .val (.ref b228), .val (.ref b484), .val (own_or ((own_at i1 (0 : Int32) (.ref t1) .null)) b3), .val (own_or ((own_at i1 (1 : Int32) (.ref t1) .null)) b116), .val (own_or ((own_at i1 (2 : Int32) (.ref t1) .null)) b163)] [(.int (1 : Int32)), (.int j2), (.int i2), (.int j1), (.int i1), (.int (1 : Int32)), (.ref b1), (own_or ((own_at i1 (1 : Int32) (.ref t1) .null)) b116)])
          obtain ⟨_, _, ⟨T694, L694, k694, n694⟩, -, X694, ⟨Lc694, hQ694, l694, y694, z694⟩, st694⟩ := Jvm.LawKit.callS X692 hx (y := xm19) hown168 (mvT hZ168 (tw169 hw)) (mvT hZ168 (tw170 hw)) (mvT hZ168 (tw171 hw)) (mvT hZ168 (tw172 hw)) (by decide) (backOf (W := 1) (rm_expect1 l Z a0 hw [] b1 i1 j1 i2 j2 (1 : Int32) k1 b3 b116 b163 b116 t1 t2 T653.heap n0 f661 f659 (⟨rfl, by decide, by decide⟩) pk_j1 pk_j2) hZ168 (tw172 hw) (tw171 hw) (by decide) (by decide)) (g := (mkF m 277 #[.val (.int p1), .val (.int p2), .val (.int p3), .val (.int p4), .val (.int p5), .val (.int p6), .val (.int (1 : Int32)), .val (.int i1), .val (.int j1), .val (.int i2), .val (.int j2), .val (.ref b1), .val (.ref b228), .val (.ref b484), .val (own_or ((own_at i1 (0 : Int32) (.ref t1) .null)) b3), .val (own_or ((own_at i1 (1 : Int32) (.ref t1) .null)) b116), .val (own_or ((own_at i1 (2 : Int32) (.ref t1) .null)) b163)] [(.int (1 : Int32)), (.int j2), (.int i2), (.int j1), (.int i1), (.int (1 : Int32)), (.ref b1), (own_or ((own_at i1 (1 : Int32) (.ref t1) .null)) b116)])) rfl (by rw [hml]; rfl) (argsL := [(.ref b1), (.int (1 : Int32)), (.int i1), (.int j1), (.int i2), (.int j2), (.int (1 : Int32))]) (rest := [(own_or ((own_at i1 (1 : Int32) (.ref t1) .null)) b116)]) (lenOf pd_11 rfl) rfl (by show 2 * 0 + _ ≤ _; simp only [List.map, List.sum_cons, List.sum_nil, own_cat ((own_orR (own_atR (rfl : Value.isRef (.ref t1) = true) (rfl : Value.isRef .null = true))))]; decide) (hb hby at_277) (fun _ _ => ⟨rfl, eq692, (by decide : 19 + 0 ≤ _), (by decide : 74 + 0 ≤ _)⟩)
          dsimp only [Pt.U, Pt.locs, Pt.cells, Pt.slots] at X694 l694 y694 z694 st694 hQ694
          subst l694 y694 z694
          obtain ⟨rfl, N694q, eq694⟩ := hQ694
          have N695 := Fr.app N693 N694q
          refine GoW.step (fun _ k => st694 _ (Jvm.RoadKit.acmp (g := (mkF m 280 #[.val (.int p1), .val (.int p2), .val (.int p3), .val (.int p4), .val (.int p5), .val (.int p6), .val (.int (1 : Int32)), .val (.int i1), .val (.int j1), .val (.int i2), .val (.int j2), .val (.ref b1), .val (.ref b228), .val (.ref b484), .val (own_or ((own_at i1 (0 : Int32) (.ref t1) .null)) b3), .val (own_or ((own_at i1 (1 : Int32) (.ref t1) .null)) b116), .val (own_or ((own_at i1 (2 : Int32) (.ref t1) .null)) b163)] [(.ref (own_e1 i1 (1 : Int32) b116 t1)), (own_or ((own_at i1 (1 : Int32) (.ref t1) .null)) b116)])) X694 hx rfl (own_orR (own_atR (rfl : Value.isRef (.ref t1) = true) (rfl : Value.isRef .null = true))) rfl (pc0 := 280) (pc' := 283) (same := true) rfl (hb hby at_280) rfl (decide_eq_true (own_fin1 i1 (1 : Int32) b116 t1)) (by decide) (by decide) (XS.aload X694.here hx rfl (hb hby at_283) rfl (own_orR (own_atR (rfl : Value.isRef (.ref t1) = true) (rfl : Value.isRef .null = true))) (XS.aload X694.here hx rfl (hb hby at_285) rfl rfl (XS.iload X694.here hx rfl (hb hby at_287) rfl (XS.iload X694.here hx rfl (hb hby at_289) rfl (XS.iload X694.here hx rfl (hb hby at_291) rfl (XS.iload X694.here hx rfl (hb hby at_293) rfl (XS.iload X694.here hx rfl (hb hby at_295) rfl (XS.iconst X694.here hx rfl (hb hby at_297) k)))))))))) ?_
          show GoW p e below s _ _ _ T694 (mkF m 298 #[.val (.int p1), .val (.int p2), .val (.int p3), .val (.int p4), .val (.int p5), .val (.int p6), .val (.int (1 : Int32)), .val (.int i1), .val (.int j1), .val (.int i2), .val (.int j2), .val (.ref b1), .val (.ref b228), .val (.ref b484), .val (own_or ((own_at i1 (0 : Int32) (.ref t1) .null)) b3), .val (own_or ((own_at i1 (1 : Int32) (.ref t1) .null)) b116), .val (own_or ((own_at i1 (2 : Int32) (.ref t1) .null)) b163)] [(.int (2 : Int32)), (.int j2), (.int i2), (.int j1), (.int i1), (.int (1 : Int32)), (.ref b1), (own_or ((own_at i1 (2 : Int32) (.ref t1) .null)) b163)])
          obtain ⟨_, _, ⟨T696, L696, k696, n696⟩, -, X696, ⟨Lc696, hQ696, l696, y696, z696⟩, st696⟩ := Jvm.LawKit.callS X694 hx (y := xm19) hown168 (mvT hZ168 (tw169 hw)) (mvT hZ168 (tw170 hw)) (mvT hZ168 (tw171 hw)) (mvT hZ168 (tw172 hw)) (by decide) (backOf (W := 1) (rm_expect1 l Z a0 hw [] b1 i1 j1 i2 j2 (2 : Int32) k1 b3 b116 b163 b163 t1 t2 T653.heap n0 f661 f659 (⟨rfl, by decide, by decide⟩) pk_j1 pk_j2) hZ168 (tw172 hw) (tw171 hw) (by decide) (by decide)) (g := (mkF m 298 #[.val (.int p1), .val (.int p2), .val (.int p3), .val (.int p4), .val (.int p5), .val (.int p6), .val (.int (1 : Int32)), .val (.int i1), .val (.int j1), .val (.int i2), .val (.int j2), .val (.ref b1), .val (.ref b228), .val (.ref b484), .val (own_or ((own_at i1 (0 : Int32) (.ref t1) .null)) b3), .val (own_or ((own_at i1 (1 : Int32) (.ref t1) .null)) b116), .val (own_or ((own_at i1 (2 : Int32) (.ref t1) .null)) b163)] [(.int (2 : Int32)), (.int j2), (.int i2), (.int j1), (.int i1), (.int (1 : Int32)), (.ref b1), (own_or ((own_at i1 (2 : Int32) (.ref t1) .null)) b163)])) rfl (by rw [hml]; rfl) (argsL := [(.ref b1), (.int (1 : Int32)), (.int i1), (.int j1), (.int i2), (.int j2), (.int (2 : Int32))]) (rest := [(own_or ((own_at i1 (2 : Int32) (.ref t1) .null)) b163)]) (lenOf pd_11 rfl) rfl (by show 2 * 0 + _ ≤ _; simp only [List.map, List.sum_cons, List.sum_nil, own_cat ((own_orR (own_atR (rfl : Value.isRef (.ref t1) = true) (rfl : Value.isRef .null = true))))]; decide) (hb hby at_298) (fun _ _ => ⟨rfl, eq694, (by decide : 19 + 0 ≤ _), (by decide : 74 + 0 ≤ _)⟩)
          dsimp only [Pt.U, Pt.locs, Pt.cells, Pt.slots] at X696 l696 y696 z696 st696 hQ696
          subst l696 y696 z696
          obtain ⟨rfl, N696q, eq696⟩ := hQ696
          have N697 := Fr.app N695 N696q
          refine GoW.step (fun _ k => st696 _ (Jvm.RoadKit.acmp (g := (mkF m 301 #[.val (.int p1), .val (.int p2), .val (.int p3), .val (.int p4), .val (.int p5), .val (.int p6), .val (.int (1 : Int32)), .val (.int i1), .val (.int j1), .val (.int i2), .val (.int j2), .val (.ref b1), .val (.ref b228), .val (.ref b484), .val (own_or ((own_at i1 (0 : Int32) (.ref t1) .null)) b3), .val (own_or ((own_at i1 (1 : Int32) (.ref t1) .null)) b116), .val (own_or ((own_at i1 (2 : Int32) (.ref t1) .null)) b163)] [(.ref (own_e1 i1 (2 : Int32) b163 t1)), (own_or ((own_at i1 (2 : Int32) (.ref t1) .null)) b163)])) X696 hx rfl (own_orR (own_atR (rfl : Value.isRef (.ref t1) = true) (rfl : Value.isRef .null = true))) rfl (pc0 := 301) (pc' := 304) (same := true) rfl (hb hby at_301) rfl (decide_eq_true (own_fin1 i1 (2 : Int32) b163 t1)) (by decide) (by decide) (XS.iconst X696.here hx rfl (hb hby at_304) (XS.goto X696.here hx rfl (pc0 := 305) (pc' := 309) rfl (hb hby at_305) (by decide) (by decide) k)))) ?_
          show GoW p e below s _ _ _ T696 (mkF m 309 #[.val (.int p1), .val (.int p2), .val (.int p3), .val (.int p4), .val (.int p5), .val (.int p6), .val (.int (1 : Int32)), .val (.int i1), .val (.int j1), .val (.int i2), .val (.int j2), .val (.ref b1), .val (.ref b228), .val (.ref b484), .val (own_or ((own_at i1 (0 : Int32) (.ref t1) .null)) b3), .val (own_or ((own_at i1 (1 : Int32) (.ref t1) .null)) b116), .val (own_or ((own_at i1 (2 : Int32) (.ref t1) .null)) b163)] [(.int (1 : Int32))])
          have f698 := (Nat.le_trans (Nat.le_trans (Nat.le_trans (Nat.le_trans (Nat.le_trans (Nat.le_trans (Nat.le_trans (Nat.le_trans (Nat.le_trans hk168 K202.1) (Keep.of_wr W206).1) E228.1) K258.1) E385.1) K407.1) K482.1) E484.1) K653.1)
          exact GoW.retN X696 hS168 hx hlk (t := .boolean) Bd.returns (by simp) (hb hby at_309) eq696 f698 ⟨rfl, N697⟩ (by decide) (by decide)
        · refine GoW.step (fun _ k => XS.iload X258.here hx rfl (hb hby at_134) rfl (XS.iconst X258.here hx rfl (hb hby at_136) (XS.icmpNo X258.here hx rfl (hb hby at_137) rfl (flt (by decide)).1 (XS.aload X258.here hx rfl (hb hby at_140) rfl rfl k)))) ?_
          show GoW p e below s _ _ _ T258 (mkF m 142 #[.val (.int p1), .val (.int p2), .val (.int p3), .val (.int p4), .val (.int p5), .val (.int p6), .val (.int (2 : Int32)), .val (.int i1), .val (.int j1), .val (.int i2), .val (.int j2), .val (.ref b1), .val (.ref b228), .unset, .unset, .unset, .unset] [(.ref b228)])
          obtain ⟨T699, h699, X699, e699, E699, A699, D699, -, st699⟩ := newO X258 hx hZ168 hown168 (tw173 hw) (tw174 hw) (tw175 hw) rfl (g := (mkF m 142 #[.val (.int p1), .val (.int p2), .val (.int p3), .val (.int p4), .val (.int p5), .val (.int p6), .val (.int (2 : Int32)), .val (.int i1), .val (.int j1), .val (.int i2), .val (.int j2), .val (.ref b1), .val (.ref b228), .unset, .unset, .unset, .unset] [(.ref b228)])) rfl (hb hby at_142) (by decide) (by decide)
          obtain ⟨b699, g699⟩ : ∃ z, z = T258.heap.size := ⟨_, rfl⟩
          rw [← g699] at A699 D699 st699
          have f700 : Fld Z h699 b699 xs7 "target" xs8 .null := D699 (Or.inr (tw181 hw)) (ty := (.object xs9)) (by decide)
          have f701 : Fld Z h699 b699 xs7 "value" xs12 .null := D699 (Or.inr (tw183 hw)) (ty := (.object xs13)) (by decide)
          refine GoW.step (fun _ k => st699 _ (XS.dup X699.here hx rfl (hb hby at_145) rfl rfl (XS.aload X699.here hx rfl (hb hby at_146) rfl rfl (XS.iload X699.here hx rfl (hb hby at_148) rfl k)))) ?_
          show GoW p e below s _ _ _ T699 (mkF m 150 #[.val (.int p1), .val (.int p2), .val (.int p3), .val (.int p4), .val (.int p5), .val (.int p6), .val (.int (2 : Int32)), .val (.int i1), .val (.int j1), .val (.int i2), .val (.int j2), .val (.ref b1), .val (.ref b228), .unset, .unset, .unset, .unset] [(.int i1), (.ref b1), (.ref b699), (.ref b699), (.ref b228)])
          have ne702 : b1 ≠ b228 := Nat.ne_of_lt (Nat.lt_of_lt_of_le f208.lt (Nat.le_of_eq g228.symm))
          have f703 := (((f208.ext E228).keep K258 (ninS ne702 nin0)).ext E699)
          obtain ⟨cl704, Ar704, -, Sz704, Ng704, Hs704, Ft704⟩ := id f703
          have in704 : ¬ (i1 < 0 ∨ cl704.slots.size ≤ (i1).toNatClampNeg) := inb_of Sz704 pk_i1.2
          have at704 : cl704.slots[(i1).toNatClampNeg]? = some (.ref u1) := Hs704.at in704 pk_i1.1
          refine GoW.step (fun _ k => X699.aaload hx (j := i1) (v := (.ref u1)) (by rw [e699]; exact Ar704.1) (State.isArrayOf_alike hZ168.alike Ar704.2.1) rfl Ar704.2.2 in704 at704 (g := (mkF m 150 #[.val (.int p1), .val (.int p2), .val (.int p3), .val (.int p4), .val (.int p5), .val (.int p6), .val (.int (2 : Int32)), .val (.int i1), .val (.int j1), .val (.int i2), .val (.int j2), .val (.ref b1), .val (.ref b228), .unset, .unset, .unset, .unset] [(.int i1), (.ref b1), (.ref b699), (.ref b699), (.ref b228)])) rfl rfl (hb hby at_150) _ (XS.aload X699.here hx rfl (hb hby at_151) rfl rfl (XS.iload X699.here hx rfl (hb hby at_153) rfl k))) ?_
          show GoW p e below s _ _ _ T699 (mkF m 155 #[.val (.int p1), .val (.int p2), .val (.int p3), .val (.int p4), .val (.int p5), .val (.int p6), .val (.int (2 : Int32)), .val (.int i1), .val (.int j1), .val (.int i2), .val (.int j2), .val (.ref b1), .val (.ref b228), .unset, .unset, .unset, .unset] [(.int j1), (.ref b1), (.ref u1), (.ref b699), (.ref b699), (.ref b228)])
          obtain ⟨cl705, Ar705, -, Sz705, Ng705, Hs705, Ft705⟩ := id f703
          have in705 : ¬ (j1 < 0 ∨ cl705.slots.size ≤ (j1).toNatClampNeg) := inb_of Sz705 pk_j1.2
          have at705 : cl705.slots[(j1).toNatClampNeg]? = some (.ref t1) := Hs705.at in705 pk_j1.1
          refine GoW.step (fun _ k => X699.aaload hx (j := j1) (v := (.ref t1)) (by rw [e699]; exact Ar705.1) (State.isArrayOf_alike hZ168.alike Ar705.2.1) rfl Ar705.2.2 in705 at705 (g := (mkF m 155 #[.val (.int p1), .val (.int p2), .val (.int p3), .val (.int p4), .val (.int p5), .val (.int p6), .val (.int (2 : Int32)), .val (.int i1), .val (.int j1), .val (.int i2), .val (.int j2), .val (.ref b1), .val (.ref b228), .unset, .unset, .unset, .unset] [(.int j1), (.ref b1), (.ref u1), (.ref b699), (.ref b699), (.ref b228)])) rfl rfl (hb hby at_155) _ k) ?_
          show GoW p e below s _ _ _ T699 (mkF m 156 #[.val (.int p1), .val (.int p2), .val (.int p3), .val (.int p4), .val (.int p5), .val (.int p6), .val (.int (2 : Int32)), .val (.int i1), .val (.int j1), .val (.int i2), .val (.int j2), .val (.ref b1), .val (.ref b228), .unset, .unset, .unset, .unset] [(.ref t1), (.ref u1), (.ref b699), (.ref b699), (.ref b228)])
          have f706 := (Nat.le_trans (Nat.le_trans f257 K258.1) E699.1)
          have f707 := (Nat.le_trans f257 K258.1)
          have g708 := Nat.le_trans f707 (Nat.le_of_eq g699.symm)
          obtain ⟨_, _, ⟨T709, L709, k709, n709⟩, -, X709, ⟨Lc709, hQ709, l709, y709, z709⟩, st709⟩ := X699.specialBack hx (y := xm20) rfl hown168 (mvT hZ168 (tw176 hw)) (mvT hZ168 (tw177 hw)) (mvT hZ168 (tw178 hw)) (by decide) (backOf (W := 2) (rm_Assignment_new_0 l Z a0 hw [] b699 u1 t1 h699 n0 f706 A699 f700 g708 f701) hZ168 (tw178 hw) (tw175 hw) (by decide) (by decide)) (g := (mkF m 156 #[.val (.int p1), .val (.int p2), .val (.int p3), .val (.int p4), .val (.int p5), .val (.int p6), .val (.int (2 : Int32)), .val (.int i1), .val (.int j1), .val (.int i2), .val (.int j2), .val (.ref b1), .val (.ref b228), .unset, .unset, .unset, .unset] [(.ref t1), (.ref u1), (.ref b699), (.ref b699), (.ref b228)])) rfl (by rw [hml]; rfl) (Steps.refl _) (a := b699) (argsL := [(.ref u1), (.ref t1)]) (rest := [(.ref b699), (.ref b228)]) (lenOf pd_12 rfl) rfl (by show 2 * 0 + _ ≤ _; exact Nat.le_of_eq rfl) (hb hby at_156) (fun _ _ => ⟨rfl, e699, (by decide : 15 + 0 ≤ _), (by decide : 56 + 0 ≤ _)⟩)
          dsimp only [Pt.U, Pt.locs, Pt.cells, Pt.slots] at X709 l709 y709 z709 st709 hQ709
          subst l709 y709 z709
          obtain ⟨rfl, N709q, K709, P709_0, P709_1⟩ := hQ709
          have N710 := Fr.app N259 N709q
          refine GoW.step (fun _ k => st709.trans k) ?_
          show GoW p e below s _ _ _ T709 (mkF m 159 #[.val (.int p1), .val (.int p2), .val (.int p3), .val (.int p4), .val (.int p5), .val (.int p6), .val (.int (2 : Int32)), .val (.int i1), .val (.int j1), .val (.int i2), .val (.int j2), .val (.ref b1), .val (.ref b228), .unset, .unset, .unset, .unset] [(.ref b699), (.ref b228)])
          have f711 := (((f256.keep K258 (allS g237 all0)).ext E699).keep K709 (allS g708 all0))
          have f712 := (Nat.le_trans f706 K709.1)
          have f713 := (A228.keep K258)
          have ne714 : b228 ≠ b699 := Nat.ne_of_lt (Nat.lt_of_lt_of_le f713.lt (Nat.le_of_eq g699.symm))
          have f715 := ((P258_0.ext E699).keep K709 (ninS ne714 nin0))
          have f716 := (((A228.keep K258).ext E699).keep K709)
          have f717 := ((P258_1.ext E699).keep K709 (ninS ne714 nin0))
          have f718 := ((P258_2.ext E699).keep K709 (ninS ne714 nin0))
          have f719 := (A699.keep K709)
          obtain ⟨cq720, kq720, q720a, q720b, q720c⟩ := isOf hZ168 rfl f716
          obtain ⟨_, _, ⟨T720, L720, k720, n720⟩, -, X720, ⟨Lc720, hQ720, l720, y720, z720⟩, st720⟩ := X709.interfaceBack hx (xi := xm30) (y := xm28) hown168 (mvT hZ168 (tw184 hw)) (mvT hZ168 (tw185 hw)) (mvT hZ168 (tw186 hw)) (mvT hZ168 (tw187 hw)) (mvT hZ168 (tw188 hw)) (mvT hZ168 (tw189 hw)) (mvT hZ168 (tw190 hw)) (mvT hZ168 (tw130 hw)) (by decide) (backOf (W := 0) (rm_ArrayList_add_0 l Z a0 hw [] b228 b699 de kde T709.heap n0 f712 f715 f716 g237 f717 f718 Z_A_de f711 Z_S_DEFAULTCAPACITY_EMPTY_ELEMENTDATA f719) hZ168 (tw191 hw) (tw92 hw) (by decide) (by decide)) q720a q720b q720c (g := (mkF m 159 #[.val (.int p1), .val (.int p2), .val (.int p3), .val (.int p4), .val (.int p5), .val (.int p6), .val (.int (2 : Int32)), .val (.int i1), .val (.int j1), .val (.int i2), .val (.int j2), .val (.ref b1), .val (.ref b228), .unset, .unset, .unset, .unset] [(.ref b699), (.ref b228)])) rfl (by rw [hml]; rfl) (Steps.refl _) (argsL := [(.ref b699)]) (rest := []) (lenOf pd_17 rfl) rfl (by show 2 * 0 + _ ≤ _; exact Nat.le_of_eq rfl) (hb hby at_159) (fun _ _ => ⟨rfl, rfl, (by decide : 15 + 1 ≤ _), (by decide : 56 + 10 ≤ _)⟩)
          dsimp only [Pt.U, Pt.locs, Pt.cells, Pt.slots] at X720 l720 y720 z720 st720 hQ720
          subst l720 y720 z720
          obtain ⟨b425_439_444_467_720, k425_439_444_467_720, rfl, N720q, K720, P720_0, P720_1, P720_2, P720_3, P720_4, P720_5⟩ := hQ720
          have N721 := Fr.app N710 N720q
          refine GoW.step (fun _ k => st720.trans (XS.pop X720.here hx rfl (hb hby at_164) rfl rfl (XS.iload X720.here hx rfl (hb hby at_165) rfl (XS.iconst X720.here hx rfl (hb hby at_167) (XS.icmpNo X720.here hx rfl (hb hby at_168) rfl (flt (by decide)).1 (XS.aload X720.here hx rfl (hb hby at_171) rfl rfl k)))))) ?_
          show GoW p e below s _ _ _ T720 (mkF m 173 #[.val (.int p1), .val (.int p2), .val (.int p3), .val (.int p4), .val (.int p5), .val (.int p6), .val (.int (2 : Int32)), .val (.int i1), .val (.int j1), .val (.int i2), .val (.int j2), .val (.ref b1), .val (.ref b228), .unset, .unset, .unset, .unset] [(.ref b228)])
          obtain ⟨T722, h722, X722, e722, E722, A722, D722, -, st722⟩ := newO X720 hx hZ168 hown168 (tw173 hw) (tw174 hw) (tw175 hw) rfl (g := (mkF m 173 #[.val (.int p1), .val (.int p2), .val (.int p3), .val (.int p4), .val (.int p5), .val (.int p6), .val (.int (2 : Int32)), .val (.int i1), .val (.int j1), .val (.int i2), .val (.int j2), .val (.ref b1), .val (.ref b228), .unset, .unset, .unset, .unset] [(.ref b228)])) rfl (hb hby at_173) (by decide) (by decide)
          obtain ⟨b722, g722⟩ : ∃ z, z = T720.heap.size := ⟨_, rfl⟩
          rw [← g722] at A722 D722 st722
          have f723 : Fld Z h722 b722 xs7 "target" xs8 .null := D722 (Or.inr (tw181 hw)) (ty := (.object xs9)) (by decide)
          have f724 : Fld Z h722 b722 xs7 "value" xs12 .null := D722 (Or.inr (tw183 hw)) (ty := (.object xs13)) (by decide)
          refine GoW.step (fun _ k => st722 _ (XS.dup X722.here hx rfl (hb hby at_176) rfl rfl (XS.aload X722.here hx rfl (hb hby at_177) rfl rfl (XS.iload X722.here hx rfl (hb hby at_179) rfl k)))) ?_
          show GoW p e below s _ _ _ T722 (mkF m 181 #[.val (.int p1), .val (.int p2), .val (.int p3), .val (.int p4), .val (.int p5), .val (.int p6), .val (.int (2 : Int32)), .val (.int i1), .val (.int j1), .val (.int i2), .val (.int j2), .val (.ref b1), .val (.ref b228), .unset, .unset, .unset, .unset] [(.int i2), (.ref b1), (.ref b722), (.ref b722), (.ref b228)])
          have f725 := ((f208.ext E228).keep K258 (ninS ne702 nin0))
          have ne726 : b1 ≠ b699 := Nat.ne_of_lt (Nat.lt_of_lt_of_le f725.lt (Nat.le_of_eq g699.symm))
          have f727 := (((f703.keep K709 (ninS ne726 nin0)).keep K720 (ninS ne702 nin0)).ext E722)
          obtain ⟨cl728, Ar728, -, Sz728, Ng728, Hs728, Ft728⟩ := id f727
          have in728 : ¬ (i2 < 0 ∨ cl728.slots.size ≤ (i2).toNatClampNeg) := inb_of Sz728 pk_i2.2
          have at728 : cl728.slots[(i2).toNatClampNeg]? = some (.ref u2) := Hs728.at in728 pk_i2.1
          refine GoW.step (fun _ k => X722.aaload hx (j := i2) (v := (.ref u2)) (by rw [e722]; exact Ar728.1) (State.isArrayOf_alike hZ168.alike Ar728.2.1) rfl Ar728.2.2 in728 at728 (g := (mkF m 181 #[.val (.int p1), .val (.int p2), .val (.int p3), .val (.int p4), .val (.int p5), .val (.int p6), .val (.int (2 : Int32)), .val (.int i1), .val (.int j1), .val (.int i2), .val (.int j2), .val (.ref b1), .val (.ref b228), .unset, .unset, .unset, .unset] [(.int i2), (.ref b1), (.ref b722), (.ref b722), (.ref b228)])) rfl rfl (hb hby at_181) _ (XS.aload X722.here hx rfl (hb hby at_182) rfl rfl (XS.iload X722.here hx rfl (hb hby at_184) rfl k))) ?_
          show GoW p e below s _ _ _ T722 (mkF m 186 #[.val (.int p1), .val (.int p2), .val (.int p3), .val (.int p4), .val (.int p5), .val (.int p6), .val (.int (2 : Int32)), .val (.int i1), .val (.int j1), .val (.int i2), .val (.int j2), .val (.ref b1), .val (.ref b228), .unset, .unset, .unset, .unset] [(.int j2), (.ref b1), (.ref u2), (.ref b722), (.ref b722), (.ref b228)])
          obtain ⟨cl729, Ar729, -, Sz729, Ng729, Hs729, Ft729⟩ := id f727
          have in729 : ¬ (j2 < 0 ∨ cl729.slots.size ≤ (j2).toNatClampNeg) := inb_of Sz729 pk_j2.2
          have at729 : cl729.slots[(j2).toNatClampNeg]? = some (.ref t2) := Hs729.at in729 pk_j2.1
          refine GoW.step (fun _ k => X722.aaload hx (j := j2) (v := (.ref t2)) (by rw [e722]; exact Ar729.1) (State.isArrayOf_alike hZ168.alike Ar729.2.1) rfl Ar729.2.2 in729 at729 (g := (mkF m 186 #[.val (.int p1), .val (.int p2), .val (.int p3), .val (.int p4), .val (.int p5), .val (.int p6), .val (.int (2 : Int32)), .val (.int i1), .val (.int j1), .val (.int i2), .val (.int j2), .val (.ref b1), .val (.ref b228), .unset, .unset, .unset, .unset] [(.int j2), (.ref b1), (.ref u2), (.ref b722), (.ref b722), (.ref b228)])) rfl rfl (hb hby at_186) _ k) ?_
          show GoW p e below s _ _ _ T722 (mkF m 187 #[.val (.int p1), .val (.int p2), .val (.int p3), .val (.int p4), .val (.int p5), .val (.int p6), .val (.int (2 : Int32)), .val (.int i1), .val (.int j1), .val (.int i2), .val (.int j2), .val (.ref b1), .val (.ref b228), .unset, .unset, .unset, .unset] [(.ref t2), (.ref u2), (.ref b722), (.ref b722), (.ref b228)])
          have f730 := (Nat.le_trans (Nat.le_trans f712 K720.1) E722.1)
          have f731 := (Nat.le_trans f712 K720.1)
          have g732 := Nat.le_trans f731 (Nat.le_of_eq g722.symm)
          obtain ⟨_, _, ⟨T733, L733, k733, n733⟩, -, X733, ⟨Lc733, hQ733, l733, y733, z733⟩, st733⟩ := X722.specialBack hx (y := xm20) rfl hown168 (mvT hZ168 (tw176 hw)) (mvT hZ168 (tw177 hw)) (mvT hZ168 (tw178 hw)) (by decide) (backOf (W := 2) (rm_Assignment_new_0 l Z a0 hw [] b722 u2 t2 h722 n0 f730 A722 f723 g732 f724) hZ168 (tw178 hw) (tw175 hw) (by decide) (by decide)) (g := (mkF m 187 #[.val (.int p1), .val (.int p2), .val (.int p3), .val (.int p4), .val (.int p5), .val (.int p6), .val (.int (2 : Int32)), .val (.int i1), .val (.int j1), .val (.int i2), .val (.int j2), .val (.ref b1), .val (.ref b228), .unset, .unset, .unset, .unset] [(.ref t2), (.ref u2), (.ref b722), (.ref b722), (.ref b228)])) rfl (by rw [hml]; rfl) (Steps.refl _) (a := b722) (argsL := [(.ref u2), (.ref t2)]) (rest := [(.ref b722), (.ref b228)]) (lenOf pd_12 rfl) rfl (by show 2 * 0 + _ ≤ _; exact Nat.le_of_eq rfl) (hb hby at_187) (fun _ _ => ⟨rfl, e722, (by decide : 17 + 0 ≤ _), (by decide : 68 + 0 ≤ _)⟩)
          dsimp only [Pt.U, Pt.locs, Pt.cells, Pt.slots] at X733 l733 y733 z733 st733 hQ733
          subst l733 y733 z733
          obtain ⟨rfl, N733q, K733, P733_0, P733_1⟩ := hQ733
          have N734 := Fr.app N721 N733q
          refine GoW.step (fun _ k => st733.trans k) ?_
          show GoW p e below s _ _ _ T733 (mkF m 190 #[.val (.int p1), .val (.int p2), .val (.int p3), .val (.int p4), .val (.int p5), .val (.int p6), .val (.int (2 : Int32)), .val (.int i1), .val (.int j1), .val (.int i2), .val (.int j2), .val (.ref b1), .val (.ref b228), .unset, .unset, .unset, .unset] [(.ref b722), (.ref b228)])
          have g745 := Nat.le_trans f712 P720_3
          have ne748 : b228 ≠ b425_439_444_467_720 := Nat.ne_of_lt (Nat.lt_of_lt_of_le f716.lt P720_3)
          have f767 := (Nat.le_trans f730 K733.1)
          have f768 := (f716.keep K720)
          have ne769 : b228 ≠ b722 := Nat.ne_of_lt (Nat.lt_of_lt_of_le f768.lt (Nat.le_of_eq g722.symm))
          have f770 := ((P720_0.ext E722).keep K733 (ninS ne769 nin0))
          have f771 := (((f716.keep K720).ext E722).keep K733)
          have f772 := ((P720_1.ext E722).keep K733 (ninS ne769 nin0))
          have f773 := ((P720_2.ext E722).keep K733 (ninS ne769 nin0))
          have ne774 : b425_439_444_467_720 ≠ b722 := Nat.ne_of_lt (Nat.lt_of_lt_of_le P720_4.lt (Nat.le_of_eq g722.symm))
          have f775 := ((P720_4.ext E722).keep K733 (ninS ne774 nin0))
          have f776 := (A722.keep K733)
          obtain ⟨cq777, kq777, q777a, q777b, q777c⟩ := isOf hZ168 rfl f771
          obtain ⟨_, _, ⟨T777, L777, k777, n777⟩, -, X777, ⟨Lc777, hQ777, l777, y777, z777⟩, st777⟩ := X733.interfaceBack hx (xi := xm30) (y := xm28) hown168 (mvT hZ168 (tw184 hw)) (mvT hZ168 (tw185 hw)) (mvT hZ168 (tw186 hw)) (mvT hZ168 (tw187 hw)) (mvT hZ168 (tw188 hw)) (mvT hZ168 (tw189 hw)) (mvT hZ168 (tw190 hw)) (mvT hZ168 (tw130 hw)) (by decide) (backOf (W := 0) (rm_ArrayList_add_2 l Z a0 hw [] b228 b722 b425_439_444_467_720 k425_439_444_467_720 b699 T733.heap n0 f767 f770 f771 g237 f772 f773 f775 P720_5 f776 g745 ne748) hZ168 (tw191 hw) (tw92 hw) (by decide) (by decide)) q777a q777b q777c (g := (mkF m 190 #[.val (.int p1), .val (.int p2), .val (.int p3), .val (.int p4), .val (.int p5), .val (.int p6), .val (.int (2 : Int32)), .val (.int i1), .val (.int j1), .val (.int i2), .val (.int j2), .val (.ref b1), .val (.ref b228), .unset, .unset, .unset, .unset] [(.ref b722), (.ref b228)])) rfl (by rw [hml]; rfl) (Steps.refl _) (argsL := [(.ref b722)]) (rest := []) (lenOf pd_17 rfl) rfl (by show 2 * 0 + _ ≤ _; exact Nat.le_of_eq rfl) (hb hby at_190) (fun _ _ => ⟨rfl, rfl, (by decide : 17 + 0 ≤ _), (by decide : 68 + 0 ≤ _)⟩)
          dsimp only [Pt.U, Pt.locs, Pt.cells, Pt.slots] at X777 l777 y777 z777 st777 hQ777
          subst l777 y777 z777
          obtain ⟨rfl, N777q, K777, P777_0, P777_1, P777_2, P777_3⟩ := hQ777
          have N778 := Fr.app N734 N777q
          refine GoW.step (fun _ k => st777.trans (XS.pop X777.here hx rfl (hb hby at_195) rfl rfl k)) ?_
          show GoW p e below s _ _ _ T777 (mkF m 196 #[.val (.int p1), .val (.int p2), .val (.int p3), .val (.int p4), .val (.int p5), .val (.int p6), .val (.int (2 : Int32)), .val (.int i1), .val (.int j1), .val (.int i2), .val (.int j2), .val (.ref b1), .val (.ref b228), .unset, .unset, .unset, .unset] [])
          obtain ⟨T779, h779, X779, e779, E779, A779, D779, -, st779⟩ := newO X777 hx hZ168 hown168 (tw114 hw) (tw115 hw) (tw116 hw) rfl (g := (mkF m 196 #[.val (.int p1), .val (.int p2), .val (.int p3), .val (.int p4), .val (.int p5), .val (.int p6), .val (.int (2 : Int32)), .val (.int i1), .val (.int j1), .val (.int i2), .val (.int j2), .val (.ref b1), .val (.ref b228), .unset, .unset, .unset, .unset] [])) rfl (hb hby at_196) (by decide) (by decide)
          obtain ⟨b779, g779⟩ : ∃ z, z = T777.heap.size := ⟨_, rfl⟩
          rw [← g779] at A779 D779 st779
          have f780 : Fld Z h779 b779 xs4 "replacements" xs11 .null := D779 (Or.inr (tw124 hw)) (ty := (.array (.object xs13))) (by decide)
          refine GoW.step (fun _ k => st779 _ (XS.dup X779.here hx rfl (hb hby at_199) rfl rfl (XS.iconst X779.here hx rfl (hb hby at_200) (XS.aload X779.here hx rfl (hb hby at_201) rfl rfl k)))) ?_
          show GoW p e below s _ _ _ T779 (mkF m 203 #[.val (.int p1), .val (.int p2), .val (.int p3), .val (.int p4), .val (.int p5), .val (.int p6), .val (.int (2 : Int32)), .val (.int i1), .val (.int j1), .val (.int i2), .val (.int j2), .val (.ref b1), .val (.ref b228), .unset, .unset, .unset, .unset] [(.ref b228), (.int (3 : Int32)), (.ref b779), (.ref b779)])
          have f787 := (Nat.le_trans f767 K777.1)
          have g788 := Nat.le_trans f787 (Nat.le_of_eq g779.symm)
          have f830 := (f771.keep K777)
          have ne831 : b228 ≠ b779 := Nat.ne_of_lt (Nat.lt_of_lt_of_le f830.lt (Nat.le_of_eq g779.symm))
          have ne863 : b425_439_444_467_720 ≠ b779 := Nat.ne_of_lt (Nat.lt_of_lt_of_le P777_3.lt (Nat.le_of_eq g779.symm))
          have f885 := ((((f719.keep K720).ext E722).keep K733).keep K777)
          have ne886 : b699 ≠ b779 := Nat.ne_of_lt (Nat.lt_of_lt_of_le f885.lt (Nat.le_of_eq g779.symm))
          have f892 := ((((((((f213.ext E228).keep K258).ext E699).keep K709).keep K720).ext E722).keep K733).keep K777)
          have ne893 : u1 ≠ b779 := Nat.ne_of_lt (Nat.lt_of_lt_of_le f892.lt (Nat.le_of_eq g779.symm))
          have f960 := (f776.keep K777)
          have ne961 : b722 ≠ b779 := Nat.ne_of_lt (Nat.lt_of_lt_of_le f960.lt (Nat.le_of_eq g779.symm))
          have f968 := ((((((((f225.ext E228).keep K258).ext E699).keep K709).keep K720).ext E722).keep K733).keep K777)
          have ne969 : u2 ≠ b779 := Nat.ne_of_lt (Nat.lt_of_lt_of_le f968.lt (Nat.le_of_eq g779.symm))
          have f1001 := (Nat.le_trans f787 E779.1)
          have f1002 := ((f771.keep K777).ext E779)
          have f1003 := (P777_0.ext E779)
          have f1004 := (P777_2.ext E779)
          have f1005 := (P777_1.ext E779)
          have f1006 := (P777_3.ext E779)
          have f1007 := (((((f719.keep K720).ext E722).keep K733).keep K777).ext E779)
          have f1008 := (f719.keep K720)
          have ne1009 : b699 ≠ b722 := Nat.ne_of_lt (Nat.lt_of_lt_of_le f1008.lt (Nat.le_of_eq g722.symm))
          have ne1010 : b699 ≠ b425_439_444_467_720 := Nat.ne_of_lt (Nat.lt_of_lt_of_le f719.lt P720_3)
          have f1011 := (((((P709_0.keep K720 (ninS (Ne.symm ne714) nin0)).ext E722).keep K733 (ninS ne1009 nin0)).keep K777 (ninS (Ne.symm ne714) (ninS ne1010 nin0))).ext E779)
          have f1012 := (((((((((f213.ext E228).keep K258).ext E699).keep K709).keep K720).ext E722).keep K733).keep K777).ext E779)
          have ne1013 : u1 ≠ b228 := Nat.ne_of_lt (Nat.lt_of_lt_of_le f213.lt (Nat.le_of_eq g228.symm))
          have f1014 := ((f213.ext E228).keep K258)
          have ne1015 : u1 ≠ b699 := Nat.ne_of_lt (Nat.lt_of_lt_of_le f1014.lt (Nat.le_of_eq g699.symm))
          have f1016 := (((f1014.ext E699).keep K709).keep K720)
          have ne1017 : u1 ≠ b722 := Nat.ne_of_lt (Nat.lt_of_lt_of_le f1016.lt (Nat.le_of_eq g722.symm))
          have f1018 := ((f1014.ext E699).keep K709)
          have ne1019 : u1 ≠ b425_439_444_467_720 := Nat.ne_of_lt (Nat.lt_of_lt_of_le f1018.lt P720_3)
          have f1020 := (((((((((f223.ext E228).keep K258 (ninS ne1013 nin0)).ext E699).keep K709 (ninS ne1015 nin0)).keep K720 (ninS ne1013 nin0)).ext E722).keep K733 (ninS ne1017 nin0)).keep K777 (ninS ne1013 (ninS ne1019 nin0))).ext E779)
          have f1021 := (((((P709_1.keep K720 (ninS (Ne.symm ne714) nin0)).ext E722).keep K733 (ninS ne1009 nin0)).keep K777 (ninS (Ne.symm ne714) (ninS ne1010 nin0))).ext E779)
          have f1022 := (((((((((f224.ext E228).keep K258).ext E699).keep K709).keep K720).ext E722).keep K733).keep K777).ext E779)
          have f1023 := ((f776.keep K777).ext E779)
          have f1024 := ((P733_0.keep K777 (ninS (Ne.symm ne769) (ninS (Ne.symm ne774) nin0))).ext E779)
          have f1025 := (((((((((f225.ext E228).keep K258).ext E699).keep K709).keep K720).ext E722).keep K733).keep K777).ext E779)
          have ne1026 : u2 ≠ b228 := Nat.ne_of_lt (Nat.lt_of_lt_of_le f225.lt (Nat.le_of_eq g228.symm))
          have f1027 := ((f225.ext E228).keep K258)
          have ne1028 : u2 ≠ b699 := Nat.ne_of_lt (Nat.lt_of_lt_of_le f1027.lt (Nat.le_of_eq g699.symm))
          have f1029 := (((f1027.ext E699).keep K709).keep K720)
          have ne1030 : u2 ≠ b722 := Nat.ne_of_lt (Nat.lt_of_lt_of_le f1029.lt (Nat.le_of_eq g722.symm))
          have f1031 := ((f1027.ext E699).keep K709)
          have ne1032 : u2 ≠ b425_439_444_467_720 := Nat.ne_of_lt (Nat.lt_of_lt_of_le f1031.lt P720_3)
          have f1033 := (((((((((f226.ext E228).keep K258 (ninS ne1026 nin0)).ext E699).keep K709 (ninS ne1028 nin0)).keep K720 (ninS ne1026 nin0)).ext E722).keep K733 (ninS ne1030 nin0)).keep K777 (ninS ne1026 (ninS ne1032 nin0))).ext E779)
          have f1034 := ((P733_1.keep K777 (ninS (Ne.symm ne769) (ninS (Ne.symm ne774) nin0))).ext E779)
          have f1035 := (((((((((f227.ext E228).keep K258).ext E699).keep K709).keep K720).ext E722).keep K733).keep K777).ext E779)
          obtain ⟨_, _, ⟨T1036, L1036, k1036, n1036⟩, -, X1036, ⟨Lc1036, hQ1036, l1036, y1036, z1036⟩, st1036⟩ := X779.specialBack hx (y := xm18) rfl hown168 (mvT hZ168 (tw117 hw)) (mvT hZ168 (tw118 hw)) (mvT hZ168 (tw119 hw)) (by decide) (backOf (W := 1) (rm_Substitution_new_2 l Z a0 hw [] b779 b228 b425_439_444_467_720 k425_439_444_467_720 b699 b722 u1 i1 t1 u2 i2 t2 h779 n0 f1001 A779 f780 g788 f1002 f1003 ne831 f1004 f1005 f1006 ne863 f1007 f1011 ne886 f1012 f1020 ne893 f1021 hi1 f1022 f1023 f1024 ne961 f1025 f1033 ne969 f1034 hi2 f1035) hZ168 (tw119 hw) (tw116 hw) (by decide) (by decide)) (g := (mkF m 203 #[.val (.int p1), .val (.int p2), .val (.int p3), .val (.int p4), .val (.int p5), .val (.int p6), .val (.int (2 : Int32)), .val (.int i1), .val (.int j1), .val (.int i2), .val (.int j2), .val (.ref b1), .val (.ref b228), .unset, .unset, .unset, .unset] [(.ref b228), (.int (3 : Int32)), (.ref b779), (.ref b779)])) rfl (by rw [hml]; rfl) (Steps.refl _) (a := b779) (argsL := [(.int (3 : Int32)), (.ref b228)]) (rest := [(.ref b779)]) (lenOf pd_9 rfl) rfl (by show 2 * 0 + _ ≤ _; exact Nat.le_of_eq rfl) (hb hby at_203) (fun _ _ => ⟨rfl, e779, (by decide : 18 + 2 ≤ _), (by decide : 69 + 7 ≤ _)⟩)
          dsimp only [Pt.U, Pt.locs, Pt.cells, Pt.slots] at X1036 l1036 y1036 z1036 st1036 hQ1036
          subst l1036 y1036 z1036
          obtain ⟨b782_1036, k782_1036, rfl, N1036q, K1036, P1036_0, P1036_1, P1036_2, P1036_3⟩ := hQ1036
          have N1037 := Fr.app N778 N1036q
          refine GoW.step (fun _ k => st1036.trans (XS.astore X1036.here hx rfl (hb hby at_206) rfl rfl (l' := #[.val (.int p1), .val (.int p2), .val (.int p3), .val (.int p4), .val (.int p5), .val (.int p6), .val (.int (2 : Int32)), .val (.int i1), .val (.int j1), .val (.int i2), .val (.int j2), .val (.ref b1), .val (.ref b228), .val (.ref b779), .unset, .unset, .unset]) rfl (XS.aload X1036.here hx rfl (hb hby at_208) rfl rfl (XS.aload X1036.here hx rfl (hb hby at_210) rfl rfl (XS.iconst X1036.here hx rfl (hb hby at_212) k))))) ?_
          show GoW p e below s _ _ _ T1036 (mkF m 213 #[.val (.int p1), .val (.int p2), .val (.int p3), .val (.int p4), .val (.int p5), .val (.int p6), .val (.int (2 : Int32)), .val (.int i1), .val (.int j1), .val (.int i2), .val (.int j2), .val (.ref b1), .val (.ref b228), .val (.ref b779), .unset, .unset, .unset] [(.int (0 : Int32)), (.ref b1), (.ref b779)])
          have f1038 := ((f703.keep K709 (ninS ne726 nin0)).keep K720 (ninS ne702 nin0))
          have ne1039 : b1 ≠ b722 := Nat.ne_of_lt (Nat.lt_of_lt_of_le f1038.lt (Nat.le_of_eq g722.symm))
          have f1040 := (f703.keep K709 (ninS ne726 nin0))
          have ne1041 : b1 ≠ b425_439_444_467_720 := Nat.ne_of_lt (Nat.lt_of_lt_of_le f1040.lt P720_3)
          have f1042 := ((f727.keep K733 (ninS ne1039 nin0)).keep K777 (ninS ne702 (ninS ne1041 nin0)))
          have ne1043 : b1 ≠ b779 := Nat.ne_of_lt (Nat.lt_of_lt_of_le f1042.lt (Nat.le_of_eq g779.symm))
          have f1044 := ((((f727.keep K733 (ninS ne1039 nin0)).keep K777 (ninS ne702 (ninS ne1041 nin0))).ext E779).keep K1036 (ninS ne1043 nin0))
          obtain ⟨cl1045, Ar1045, -, Sz1045, Ng1045, Hs1045, Ft1045⟩ := id f1044
          have in1045 : ¬ ((0 : Int32) < 0 ∨ cl1045.slots.size ≤ ((0 : Int32)).toNatClampNeg) := (inb_of Sz1045 ⟨by decide, by decide⟩)
          have at1045 : cl1045.slots[((0 : Int32)).toNatClampNeg]? = some (.ref b3) := Hs1045.at in1045 rfl
          refine GoW.step (fun _ k => X1036.aaload hx (j := (0 : Int32)) (v := (.ref b3)) (by exact Ar1045.1) (State.isArrayOf_alike hZ168.alike Ar1045.2.1) rfl Ar1045.2.2 in1045 at1045 (g := (mkF m 213 #[.val (.int p1), .val (.int p2), .val (.int p3), .val (.int p4), .val (.int p5), .val (.int p6), .val (.int (2 : Int32)), .val (.int i1), .val (.int j1), .val (.int i2), .val (.int j2), .val (.ref b1), .val (.ref b228), .val (.ref b779), .unset, .unset, .unset] [(.int (0 : Int32)), (.ref b1), (.ref b779)])) rfl rfl (hb hby at_213) _ k) ?_
          show GoW p e below s _ _ _ T1036 (mkF m 214 #[.val (.int p1), .val (.int p2), .val (.int p3), .val (.int p4), .val (.int p5), .val (.int p6), .val (.int (2 : Int32)), .val (.int i1), .val (.int j1), .val (.int i2), .val (.int j2), .val (.ref b1), .val (.ref b228), .val (.ref b779), .unset, .unset, .unset] [(.ref b3), (.ref b779)])
          have f1046 := (Nat.le_trans f1001 K1036.1)
          have f1047 := ((((((((((f210.ext E228).keep K258).ext E699).keep K709).keep K720).ext E722).keep K733).keep K777).ext E779).keep K1036)
          have ne1048 : b3 ≠ b228 := Nat.ne_of_lt (Nat.lt_of_lt_of_le f210.lt (Nat.le_of_eq g228.symm))
          have f1049 := ((f210.ext E228).keep K258)
          have ne1050 : b3 ≠ b699 := Nat.ne_of_lt (Nat.lt_of_lt_of_le f1049.lt (Nat.le_of_eq g699.symm))
          have f1051 := (((f1049.ext E699).keep K709).keep K720)
          have ne1052 : b3 ≠ b722 := Nat.ne_of_lt (Nat.lt_of_lt_of_le f1051.lt (Nat.le_of_eq g722.symm))
          have f1053 := ((f1049.ext E699).keep K709)
          have ne1054 : b3 ≠ b425_439_444_467_720 := Nat.ne_of_lt (Nat.lt_of_lt_of_le f1053.lt P720_3)
          have f1055 := (((f1051.ext E722).keep K733).keep K777)
          have ne1056 : b3 ≠ b779 := Nat.ne_of_lt (Nat.lt_of_lt_of_le f1055.lt (Nat.le_of_eq g779.symm))
          have f1057 := ((((((((((f218.ext E228).keep K258 (ninS ne1048 nin0)).ext E699).keep K709 (ninS ne1050 nin0)).keep K720 (ninS ne1048 nin0)).ext E722).keep K733 (ninS ne1052 nin0)).keep K777 (ninS ne1048 (ninS ne1054 nin0))).ext E779).keep K1036 (ninS ne1056 nin0))
          have f1059 := (A779.keep K1036)
          obtain ⟨cq1058, kq1058, q1058a, q1058b, q1058c⟩ := isOf hZ168 rfl f1059
          obtain ⟨_, _, ⟨T1058, L1058, k1058, n1058⟩, -, X1058, ⟨Lc1058, hQ1058, l1058, y1058, z1058⟩, st1058⟩ := X1036.virtualBack hx (y := xm11) (z := xm11) hown168 (mvT hZ168 (tw159 hw)) (mvT hZ168 (tw160 hw)) (notFace_of_selects (args := #[]) (mvT hZ168 (tw162 hw))) (mvT hZ168 (tw162 hw)) (mvT hZ168 (tw161 hw)) (by decide) (backOf (W := 0) (rm_variable0 l Z a0 hw [] b779 b3 b782_1036 k782_1036 ((own_at i2 (0 : Int32) (.ref t2) (own_at i1 (0 : Int32) (.ref t1) .null))) ((own_at i2 (1 : Int32) (.ref t2) (own_at i1 (1 : Int32) (.ref t1) .null))) ((own_at i2 (2 : Int32) (.ref t2) (own_at i1 (2 : Int32) (.ref t1) .null))) T1036.heap n0 f1046 P1036_0 P1036_2 f1047 f1057 ((own_atR (rfl : Value.isRef (.ref t2) = true) (own_atR (rfl : Value.isRef (.ref t1) = true) (rfl : Value.isRef .null = true))))) hZ168 (tw163 hw) (tw116 hw) (by decide) (by decide)) q1058a q1058c (g := (mkF m 214 #[.val (.int p1), .val (.int p2), .val (.int p3), .val (.int p4), .val (.int p5), .val (.int p6), .val (.int (2 : Int32)), .val (.int i1), .val (.int j1), .val (.int i2), .val (.int j2), .val (.ref b1), .val (.ref b228), .val (.ref b779), .unset, .unset, .unset] [(.ref b3), (.ref b779)])) rfl (by rw [hml]; rfl) (Steps.refl _) (argsL := [(.ref b3)]) (rest := []) (lenOf pd_10 rfl) rfl (by show 2 * 0 + _ ≤ _; exact Nat.le_of_eq rfl) (hb hby at_214) (fun _ _ => ⟨rfl, rfl, (by decide : 20 + 0 ≤ _), (by decide : 76 + 0 ≤ _)⟩)
          dsimp only [Pt.U, Pt.locs, Pt.cells, Pt.slots] at X1058 l1058 y1058 z1058 st1058 hQ1058
          subst l1058 y1058 z1058
          obtain ⟨rfl, N1058q, eq1058⟩ := hQ1058
          have N1060 := Fr.app N1037 N1058q
          refine GoW.step (fun _ k => st1058.trans (XS.astoreS X1058.here hx rfl (hb hby at_217) rfl (own_orR (own_atR (rfl : Value.isRef (.ref t2) = true) (own_atR (rfl : Value.isRef (.ref t1) = true) (rfl : Value.isRef .null = true)))) (own_cat (own_orR (own_atR (rfl : Value.isRef (.ref t2) = true) (own_atR (rfl : Value.isRef (.ref t1) = true) (rfl : Value.isRef .null = true))))) rfl (Or.inl rfl) (XS.aload X1058.here hx rfl (hb hby at_219) rfl rfl (XS.aload X1058.here hx rfl (hb hby at_221) rfl rfl (XS.iconst X1058.here hx rfl (hb hby at_223) k))))) ?_
          show GoW p e below s _ _ _ T1058 (mkF m 224 #[.val (.int p1), .val (.int p2), .val (.int p3), .val (.int p4), .val (.int p5), .val (.int p6), .val (.int (2 : Int32)), .val (.int i1), .val (.int j1), .val (.int i2), .val (.int j2), .val (.ref b1), .val (.ref b228), .val (.ref b779), .val (own_or ((own_at i2 (0 : Int32) (.ref t2) (own_at i1 (0 : Int32) (.ref t1) .null))) b3), .unset, .unset] [(.int (1 : Int32)), (.ref b1), (.ref b779)])
          obtain ⟨cl1061, Ar1061, -, Sz1061, Ng1061, Hs1061, Ft1061⟩ := id f1044
          have in1061 : ¬ ((1 : Int32) < 0 ∨ cl1061.slots.size ≤ ((1 : Int32)).toNatClampNeg) := (inb_of Sz1061 ⟨by decide, by decide⟩)
          have at1061 : cl1061.slots[((1 : Int32)).toNatClampNeg]? = some (.ref b116) := Hs1061.at in1061 rfl
          refine GoW.step (fun _ k => X1058.aaload hx (j := (1 : Int32)) (v := (.ref b116)) (by rw [eq1058]; exact Ar1061.1) (State.isArrayOf_alike hZ168.alike Ar1061.2.1) rfl Ar1061.2.2 in1061 at1061 (g := (mkF m 224 #[.val (.int p1), .val (.int p2), .val (.int p3), .val (.int p4), .val (.int p5), .val (.int p6), .val (.int (2 : Int32)), .val (.int i1), .val (.int j1), .val (.int i2), .val (.int j2), .val (.ref b1), .val (.ref b228), .val (.ref b779), .val (own_or ((own_at i2 (0 : Int32) (.ref t2) (own_at i1 (0 : Int32) (.ref t1) .null))) b3), .unset, .unset] [(.int (1 : Int32)), (.ref b1), (.ref b779)])) rfl rfl (hb hby at_224) _ k) ?_
          show GoW p e below s _ _ _ T1058 (mkF m 225 #[.val (.int p1), .val (.int p2), .val (.int p3), .val (.int p4), .val (.int p5), .val (.int p6), .val (.int (2 : Int32)), .val (.int i1), .val (.int j1), .val (.int i2), .val (.int j2), .val (.ref b1), .val (.ref b228), .val (.ref b779), .val (own_or ((own_at i2 (0 : Int32) (.ref t2) (own_at i1 (0 : Int32) (.ref t1) .null))) b3), .unset, .unset] [(.ref b116), (.ref b779)])
          have f1062 := ((((((((((f211.ext E228).keep K258).ext E699).keep K709).keep K720).ext E722).keep K733).keep K777).ext E779).keep K1036)
          have ne1063 : b116 ≠ b228 := Nat.ne_of_lt (Nat.lt_of_lt_of_le f211.lt (Nat.le_of_eq g228.symm))
          have f1064 := ((f211.ext E228).keep K258)
          have ne1065 : b116 ≠ b699 := Nat.ne_of_lt (Nat.lt_of_lt_of_le f1064.lt (Nat.le_of_eq g699.symm))
          have f1066 := (((f1064.ext E699).keep K709).keep K720)
          have ne1067 : b116 ≠ b722 := Nat.ne_of_lt (Nat.lt_of_lt_of_le f1066.lt (Nat.le_of_eq g722.symm))
          have f1068 := ((f1064.ext E699).keep K709)
          have ne1069 : b116 ≠ b425_439_444_467_720 := Nat.ne_of_lt (Nat.lt_of_lt_of_le f1068.lt P720_3)
          have f1070 := (((f1066.ext E722).keep K733).keep K777)
          have ne1071 : b116 ≠ b779 := Nat.ne_of_lt (Nat.lt_of_lt_of_le f1070.lt (Nat.le_of_eq g779.symm))
          have f1072 := ((((((((((f221.ext E228).keep K258 (ninS ne1063 nin0)).ext E699).keep K709 (ninS ne1065 nin0)).keep K720 (ninS ne1063 nin0)).ext E722).keep K733 (ninS ne1067 nin0)).keep K777 (ninS ne1063 (ninS ne1069 nin0))).ext E779).keep K1036 (ninS ne1071 nin0))
          obtain ⟨cq1073, kq1073, q1073a, q1073b, q1073c⟩ := isOf hZ168 eq1058 f1059
          obtain ⟨_, _, ⟨T1073, L1073, k1073, n1073⟩, -, X1073, ⟨Lc1073, hQ1073, l1073, y1073, z1073⟩, st1073⟩ := X1058.virtualBack hx (y := xm11) (z := xm11) hown168 (mvT hZ168 (tw159 hw)) (mvT hZ168 (tw160 hw)) (notFace_of_selects (args := #[]) (mvT hZ168 (tw162 hw))) (mvT hZ168 (tw162 hw)) (mvT hZ168 (tw161 hw)) (by decide) (backOf (W := 0) (rm_variable1 l Z a0 hw [] b779 b116 b782_1036 k782_1036 ((own_at i2 (0 : Int32) (.ref t2) (own_at i1 (0 : Int32) (.ref t1) .null))) ((own_at i2 (1 : Int32) (.ref t2) (own_at i1 (1 : Int32) (.ref t1) .null))) ((own_at i2 (2 : Int32) (.ref t2) (own_at i1 (2 : Int32) (.ref t1) .null))) T1036.heap n0 f1046 P1036_0 P1036_2 f1062 f1072 ((own_atR (rfl : Value.isRef (.ref t2) = true) (own_atR (rfl : Value.isRef (.ref t1) = true) (rfl : Value.isRef .null = true))))) hZ168 (tw163 hw) (tw116 hw) (by decide) (by decide)) q1073a q1073c (g := (mkF m 225 #[.val (.int p1), .val (.int p2), .val (.int p3), .val (.int p4), .val (.int p5), .val (.int p6), .val (.int (2 : Int32)), .val (.int i1), .val (.int j1), .val (.int i2), .val (.int j2), .val (.ref b1), .val (.ref b228), .val (.ref b779), .val (own_or ((own_at i2 (0 : Int32) (.ref t2) (own_at i1 (0 : Int32) (.ref t1) .null))) b3), .unset, .unset] [(.ref b116), (.ref b779)])) rfl (by rw [hml]; rfl) (Steps.refl _) (argsL := [(.ref b116)]) (rest := []) (lenOf pd_10 rfl) rfl (by show 2 * 0 + _ ≤ _; exact Nat.le_of_eq rfl) (hb hby at_225) (fun _ _ => ⟨rfl, eq1058, (by decide : 20 + 0 ≤ _), (by decide : 76 + 0 ≤ _)⟩)
          dsimp only [Pt.U, Pt.locs, Pt.cells, Pt.slots] at X1073 l1073 y1073 z1073 st1073 hQ1073
          subst l1073 y1073 z1073
          obtain ⟨rfl, N1073q, eq1073⟩ := hQ1073
          have N1074 := Fr.app N1060 N1073q
          refine GoW.step (fun _ k => st1073.trans (XS.astoreS X1073.here hx rfl (hb hby at_228) rfl (own_orR (own_atR (rfl : Value.isRef (.ref t2) = true) (own_atR (rfl : Value.isRef (.ref t1) = true) (rfl : Value.isRef .null = true)))) (own_cat (own_orR (own_atR (rfl : Value.isRef (.ref t2) = true) (own_atR (rfl : Value.isRef (.ref t1) = true) (rfl : Value.isRef .null = true))))) rfl (Or.inl rfl) (XS.aload X1073.here hx rfl (hb hby at_230) rfl rfl (XS.aload X1073.here hx rfl (hb hby at_232) rfl rfl (XS.iconst X1073.here hx rfl (hb hby at_234) k))))) ?_
          show GoW p e below s _ _ _ T1073 (mkF m 235 #[.val (.int p1), .val (.int p2), .val (.int p3), .val (.int p4), .val (.int p5), .val (.int p6), .val (.int (2 : Int32)), .val (.int i1), .val (.int j1), .val (.int i2), .val (.int j2), .val (.ref b1), .val (.ref b228), .val (.ref b779), .val (own_or ((own_at i2 (0 : Int32) (.ref t2) (own_at i1 (0 : Int32) (.ref t1) .null))) b3), .val (own_or ((own_at i2 (1 : Int32) (.ref t2) (own_at i1 (1 : Int32) (.ref t1) .null))) b116), .unset] [(.int (2 : Int32)), (.ref b1), (.ref b779)])
          obtain ⟨cl1075, Ar1075, -, Sz1075, Ng1075, Hs1075, Ft1075⟩ := id f1044
          have in1075 : ¬ ((2 : Int32) < 0 ∨ cl1075.slots.size ≤ ((2 : Int32)).toNatClampNeg) := (inb_of Sz1075 ⟨by decide, by decide⟩)
          have at1075 : cl1075.slots[((2 : Int32)).toNatClampNeg]? = some (.ref b163) := Hs1075.at in1075 rfl
          refine GoW.step (fun _ k => X1073.aaload hx (j := (2 : Int32)) (v := (.ref b163)) (by rw [eq1073]; exact Ar1075.1) (State.isArrayOf_alike hZ168.alike Ar1075.2.1) rfl Ar1075.2.2 in1075 at1075 (g := (mkF m 235 #[.val (.int p1), .val (.int p2), .val (.int p3), .val (.int p4), .val (.int p5), .val (.int p6), .val (.int (2 : Int32)), .val (.int i1), .val (.int j1), .val (.int i2), .val (.int j2), .val (.ref b1), .val (.ref b228), .val (.ref b779), .val (own_or ((own_at i2 (0 : Int32) (.ref t2) (own_at i1 (0 : Int32) (.ref t1) .null))) b3), .val (own_or ((own_at i2 (1 : Int32) (.ref t2) (own_at i1 (1 : Int32) (.ref t1) .null))) b116), .unset] [(.int (2 : Int32)), (.ref b1), (.ref b779)])) rfl rfl (hb hby at_235) _ k) ?_
          show GoW p e below s _ _ _ T1073 (mkF m 236 #[.val (.int p1), .val (.int p2), .val (.int p3), .val (.int p4), .val (.int p5), .val (.int p6), .val (.int (2 : Int32)), .val (.int i1), .val (.int j1), .val (.int i2), .val (.int j2), .val (.ref b1), .val (.ref b228), .val (.ref b779), .val (own_or ((own_at i2 (0 : Int32) (.ref t2) (own_at i1 (0 : Int32) (.ref t1) .null))) b3), .val (own_or ((own_at i2 (1 : Int32) (.ref t2) (own_at i1 (1 : Int32) (.ref t1) .null))) b116), .unset] [(.ref b163), (.ref b779)])
          have f1076 := ((((((((((f212.ext E228).keep K258).ext E699).keep K709).keep K720).ext E722).keep K733).keep K777).ext E779).keep K1036)
          have ne1077 : b163 ≠ b228 := Nat.ne_of_lt (Nat.lt_of_lt_of_le f212.lt (Nat.le_of_eq g228.symm))
          have f1078 := ((f212.ext E228).keep K258)
          have ne1079 : b163 ≠ b699 := Nat.ne_of_lt (Nat.lt_of_lt_of_le f1078.lt (Nat.le_of_eq g699.symm))
          have f1080 := (((f1078.ext E699).keep K709).keep K720)
          have ne1081 : b163 ≠ b722 := Nat.ne_of_lt (Nat.lt_of_lt_of_le f1080.lt (Nat.le_of_eq g722.symm))
          have f1082 := ((f1078.ext E699).keep K709)
          have ne1083 : b163 ≠ b425_439_444_467_720 := Nat.ne_of_lt (Nat.lt_of_lt_of_le f1082.lt P720_3)
          have f1084 := (((f1080.ext E722).keep K733).keep K777)
          have ne1085 : b163 ≠ b779 := Nat.ne_of_lt (Nat.lt_of_lt_of_le f1084.lt (Nat.le_of_eq g779.symm))
          have f1086 := ((((((((((f222.ext E228).keep K258 (ninS ne1077 nin0)).ext E699).keep K709 (ninS ne1079 nin0)).keep K720 (ninS ne1077 nin0)).ext E722).keep K733 (ninS ne1081 nin0)).keep K777 (ninS ne1077 (ninS ne1083 nin0))).ext E779).keep K1036 (ninS ne1085 nin0))
          obtain ⟨cq1087, kq1087, q1087a, q1087b, q1087c⟩ := isOf hZ168 eq1073 f1059
          obtain ⟨_, _, ⟨T1087, L1087, k1087, n1087⟩, -, X1087, ⟨Lc1087, hQ1087, l1087, y1087, z1087⟩, st1087⟩ := X1073.virtualBack hx (y := xm11) (z := xm11) hown168 (mvT hZ168 (tw159 hw)) (mvT hZ168 (tw160 hw)) (notFace_of_selects (args := #[]) (mvT hZ168 (tw162 hw))) (mvT hZ168 (tw162 hw)) (mvT hZ168 (tw161 hw)) (by decide) (backOf (W := 0) (rm_variable2 l Z a0 hw [] b779 b163 b782_1036 k782_1036 ((own_at i2 (0 : Int32) (.ref t2) (own_at i1 (0 : Int32) (.ref t1) .null))) ((own_at i2 (1 : Int32) (.ref t2) (own_at i1 (1 : Int32) (.ref t1) .null))) ((own_at i2 (2 : Int32) (.ref t2) (own_at i1 (2 : Int32) (.ref t1) .null))) T1036.heap n0 f1046 P1036_0 P1036_2 f1076 f1086 ((own_atR (rfl : Value.isRef (.ref t2) = true) (own_atR (rfl : Value.isRef (.ref t1) = true) (rfl : Value.isRef .null = true))))) hZ168 (tw163 hw) (tw116 hw) (by decide) (by decide)) q1087a q1087c (g := (mkF m 236 #[.val (.int p1), .val (.int p2), .val (.int p3), .val (.int p4), .val (.int p5), .val (.int p6), .val (.int (2 : Int32)), .val (.int i1), .val (.int j1), .val (.int i2), .val (.int j2), .val (.ref b1), .val (.ref b228), .val (.ref b779), .val (own_or ((own_at i2 (0 : Int32) (.ref t2) (own_at i1 (0 : Int32) (.ref t1) .null))) b3), .val (own_or ((own_at i2 (1 : Int32) (.ref t2) (own_at i1 (1 : Int32) (.ref t1) .null))) b116), .unset] [(.ref b163), (.ref b779)])) rfl (by rw [hml]; rfl) (Steps.refl _) (argsL := [(.ref b163)]) (rest := []) (lenOf pd_10 rfl) rfl (by show 2 * 0 + _ ≤ _; exact Nat.le_of_eq rfl) (hb hby at_236) (fun _ _ => ⟨rfl, eq1073, (by decide : 20 + 0 ≤ _), (by decide : 76 + 0 ≤ _)⟩)
          dsimp only [Pt.U, Pt.locs, Pt.cells, Pt.slots] at X1087 l1087 y1087 z1087 st1087 hQ1087
          subst l1087 y1087 z1087
          obtain ⟨rfl, N1087q, eq1087⟩ := hQ1087
          have N1088 := Fr.app N1074 N1087q
          refine GoW.step (fun _ k => st1087.trans (XS.astoreS X1087.here hx rfl (hb hby at_239) rfl (own_orR (own_atR (rfl : Value.isRef (.ref t2) = true) (own_atR (rfl : Value.isRef (.ref t1) = true) (rfl : Value.isRef .null = true)))) (own_cat (own_orR (own_atR (rfl : Value.isRef (.ref t2) = true) (own_atR (rfl : Value.isRef (.ref t1) = true) (rfl : Value.isRef .null = true))))) rfl (Or.inl rfl) (XS.aload X1087.here hx rfl (hb hby at_241) rfl (own_orR (own_atR (rfl : Value.isRef (.ref t2) = true) (own_atR (rfl : Value.isRef (.ref t1) = true) (rfl : Value.isRef .null = true)))) (XS.aload X1087.here hx rfl (hb hby at_243) rfl rfl (XS.iload X1087.here hx rfl (hb hby at_245) rfl (XS.iload X1087.here hx rfl (hb hby at_247) rfl (XS.iload X1087.here hx rfl (hb hby at_249) rfl (XS.iload X1087.here hx rfl (hb hby at_251) rfl (XS.iload X1087.here hx rfl (hb hby at_253) rfl (XS.iconst X1087.here hx rfl (hb hby at_255) k)))))))))) ?_
          show GoW p e below s _ _ _ T1087 (mkF m 256 #[.val (.int p1), .val (.int p2), .val (.int p3), .val (.int p4), .val (.int p5), .val (.int p6), .val (.int (2 : Int32)), .val (.int i1), .val (.int j1), .val (.int i2), .val (.int j2), .val (.ref b1), .val (.ref b228), .val (.ref b779), .val (own_or ((own_at i2 (0 : Int32) (.ref t2) (own_at i1 (0 : Int32) (.ref t1) .null))) b3), .val (own_or ((own_at i2 (1 : Int32) (.ref t2) (own_at i1 (1 : Int32) (.ref t1) .null))) b116), .val (own_or ((own_at i2 (2 : Int32) (.ref t2) (own_at i1 (2 : Int32) (.ref t1) .null))) b163)] [(.int (0 : Int32)), (.int j2), (.int i2), (.int j1), (.int i1), (.int (2 : Int32)), (.ref b1), (own_or ((own_at i2 (0 : Int32) (.ref t2) (own_at i1 (0 : Int32) (.ref t1) .null))) b3)])
          obtain ⟨_, _, ⟨T1089, L1089, k1089, n1089⟩, -, X1089, ⟨Lc1089, hQ1089, l1089, y1089, z1089⟩, st1089⟩ := Jvm.LawKit.callS X1087 hx (y := xm19) hown168 (mvT hZ168 (tw169 hw)) (mvT hZ168 (tw170 hw)) (mvT hZ168 (tw171 hw)) (mvT hZ168 (tw172 hw)) (by decide) (backOf (W := 1) (rm_expect2 l Z a0 hw [] b1 i1 j1 i2 j2 (0 : Int32) k1 b3 b116 b163 b3 t1 t2 T1036.heap n0 f1046 f1044 (⟨rfl, by decide, by decide⟩) pk_j1 pk_j2) hZ168 (tw172 hw) (tw171 hw) (by decide) (by decide)) (g := (mkF m 256 #[.val (.int p1), .val (.int p2), .val (.int p3), .val (.int p4), .val (.int p5), .val (.int p6), .val (.int (2 : Int32)), .val (.int i1), .val (.int j1), .val (.int i2), .val (.int j2), .val (.ref b1), .val (.ref b228), .val (.ref b779), .val (own_or ((own_at i2 (0 : Int32) (.ref t2) (own_at i1 (0 : Int32) (.ref t1) .null))) b3), .val (own_or ((own_at i2 (1 : Int32) (.ref t2) (own_at i1 (1 : Int32) (.ref t1) .null))) b116), .val (own_or ((own_at i2 (2 : Int32) (.ref t2) (own_at i1 (2 : Int32) (.ref t1) .null))) b163)] [(.int (0 : Int32)), (.int j2), (.int i2), (.int j1), (.int i1), (.int (2 : Int32)), (.ref b1), (own_or ((own_at i2 (0 : Int32) (.ref t2) (own_at i1 (0 : Int32) (.ref t1) .null))) b3)])) rfl (by rw [hml]; rfl) (argsL := [(.ref b1), (.int (2 : Int32)), (.int i1), (.int j1), (.int i2), (.int j2), (.int (0 : Int32))]) (rest := [(own_or ((own_at i2 (0 : Int32) (.ref t2) (own_at i1 (0 : Int32) (.ref t1) .null))) b3)]) (lenOf pd_11 rfl) rfl (by show 2 * 0 + _ ≤ _; simp only [List.map, List.sum_cons, List.sum_nil, own_cat ((own_orR (own_atR (rfl : Value.isRef (.ref t2) = true) (own_atR (rfl : Value.isRef (.ref t1) = true) (rfl : Value.isRef .null = true)))))]; decide) (hb hby at_256) (fun _ _ => ⟨rfl, eq1087, (by decide : 20 + 0 ≤ _), (by decide : 76 + 0 ≤ _)⟩)
          dsimp only [Pt.U, Pt.locs, Pt.cells, Pt.slots] at X1089 l1089 y1089 z1089 st1089 hQ1089
          subst l1089 y1089 z1089
          obtain ⟨rfl, N1089q, eq1089⟩ := hQ1089
          have N1090 := Fr.app N1088 N1089q
          refine GoW.step (fun _ k => st1089 _ (Jvm.RoadKit.acmp (g := (mkF m 259 #[.val (.int p1), .val (.int p2), .val (.int p3), .val (.int p4), .val (.int p5), .val (.int p6), .val (.int (2 : Int32)), .val (.int i1), .val (.int j1), .val (.int i2), .val (.int j2), .val (.ref b1), .val (.ref b228), .val (.ref b779), .val (own_or ((own_at i2 (0 : Int32) (.ref t2) (own_at i1 (0 : Int32) (.ref t1) .null))) b3), .val (own_or ((own_at i2 (1 : Int32) (.ref t2) (own_at i1 (1 : Int32) (.ref t1) .null))) b116), .val (own_or ((own_at i2 (2 : Int32) (.ref t2) (own_at i1 (2 : Int32) (.ref t1) .null))) b163)] [(.ref (own_e2 i1 i2 (0 : Int32) b3 t1 t2)), (own_or ((own_at i2 (0 : Int32) (.ref t2) (own_at i1 (0 : Int32) (.ref t1) .null))) b3)])) X1089 hx rfl (own_orR (own_atR (rfl : Value.isRef (.ref t2) = true) (own_atR (rfl : Value.isRef (.ref t1) = true) (rfl : Value.isRef .null = true)))) rfl (pc0 := 259) (pc' := 262) (same := true) rfl (hb hby at_259) rfl (decide_eq_true (own_fin2 i1 i2 (0 : Int32) b3 t1 t2)) (by decide) (by decide) (XS.aload X1089.here hx rfl (hb hby at_262) rfl (own_orR (own_atR (rfl : Value.isRef (.ref t2) = true) (own_atR (rfl : Value.isRef (.ref t1) = true) (rfl : Value.isRef .null = true)))) (XS.aload X1089.here hx rfl (hb hby at_264) rfl rfl (XS.iload X1089.here hx rfl (hb hby at_266) rfl (XS.iload X1089.here hx rfl (hb hby at_268) rfl (XS.iload X1089.here hx rfl (hb hby at_270) rfl (XS.iload X1089.here hx rfl (hb hby at_272) rfl (XS.iload X1089.here hx rfl (hb hby at_274) rfl (XS.iconst X1089.here hx rfl (hb hby at_276) k)))))))))) ?_
          show GoW p e below s _ _ _ T1089 (mkF m 277 #[.val (.int p1), .val (.int p2), .val (.int p3), .val (.int p4), .val (.int p5), .val (.int p6), .val (.int (2 : Int32)), .val (.int i1), .val (.int j1), .val (.int i2), .val (.int j2), .val (.ref b1), .val (.ref b228), .val (.ref b779), .val (own_or ((own_at i2 (0 : Int32) (.ref t2) (own_at i1 (0 : Int32) (.ref t1) .null))) b3), .val (own_or ((own_at i2 (1 : Int32) (.ref t2) (own_at i1 (1 : Int32) (.ref t1) .null))) b116), .val (own_or ((own_at i2 (2 : Int32) (.ref t2) (own_at i1 (2 : Int32) (.ref t1) .null))) b163)] [(.int (1 : Int32)), (.int j2), (.int i2), (.int j1), (.int i1), (.int (2 : Int32)), (.ref b1), (own_or ((own_at i2 (1 : Int32) (.ref t2) (own_at i1 (1 : Int32) (.ref t1) .null))) b116)])
          obtain ⟨_, _, ⟨T1091, L1091, k1091, n1091⟩, -, X1091, ⟨Lc1091, hQ1091, l1091, y1091, z1091⟩, st1091⟩ := Jvm.LawKit.callS X1089 hx (y := xm19) hown168 (mvT hZ168 (tw169 hw)) (mvT hZ168 (tw170 hw)) (mvT hZ168 (tw171 hw)) (mvT hZ168 (tw172 hw)) (by decide) (backOf (W := 1) (rm_expect2 l Z a0 hw [] b1 i1 j1 i2 j2 (1 : Int32) k1 b3 b116 b163 b116 t1 t2 T1036.heap n0 f1046 f1044 (⟨rfl, by decide, by decide⟩) pk_j1 pk_j2) hZ168 (tw172 hw) (tw171 hw) (by decide) (by decide)) (g := (mkF m 277 #[.val (.int p1), .val (.int p2), .val (.int p3), .val (.int p4), .val (.int p5), .val (.int p6), .val (.int (2 : Int32)), .val (.int i1), .val (.int j1), .val (.int i2), .val (.int j2), .val (.ref b1), .val (.ref b228), .val (.ref b779), .val (own_or ((own_at i2 (0 : Int32) (.ref t2) (own_at i1 (0 : Int32) (.ref t1) .null))) b3), .val (own_or ((own_at i2 (1 : Int32) (.ref t2) (own_at i1 (1 : Int32) (.ref t1) .null))) b116), .val (own_or ((own_at i2 (2 : Int32) (.ref t2) (own_at i1 (2 : Int32) (.ref t1) .null))) b163)] [(.int (1 : Int32)), (.int j2), (.int i2), (.int j1), (.int i1), (.int (2 : Int32)), (.ref b1), (own_or ((own_at i2 (1 : Int32) (.ref t2) (own_at i1 (1 : Int32) (.ref t1) .null))) b116)])) rfl (by rw [hml]; rfl) (argsL := [(.ref b1), (.int (2 : Int32)), (.int i1), (.int j1), (.int i2), (.int j2), (.int (1 : Int32))]) (rest := [(own_or ((own_at i2 (1 : Int32) (.ref t2) (own_at i1 (1 : Int32) (.ref t1) .null))) b116)]) (lenOf pd_11 rfl) rfl (by show 2 * 0 + _ ≤ _; simp only [List.map, List.sum_cons, List.sum_nil, own_cat ((own_orR (own_atR (rfl : Value.isRef (.ref t2) = true) (own_atR (rfl : Value.isRef (.ref t1) = true) (rfl : Value.isRef .null = true)))))]; decide) (hb hby at_277) (fun _ _ => ⟨rfl, eq1089, (by decide : 20 + 0 ≤ _), (by decide : 76 + 0 ≤ _)⟩)
          dsimp only [Pt.U, Pt.locs, Pt.cells, Pt.slots] at X1091 l1091 y1091 z1091 st1091 hQ1091
          subst l1091 y1091 z1091
          obtain ⟨rfl, N1091q, eq1091⟩ := hQ1091
          have N1092 := Fr.app N1090 N1091q
          refine GoW.step (fun _ k => st1091 _ (Jvm.RoadKit.acmp (g := (mkF m 280 #[.val (.int p1), .val (.int p2), .val (.int p3), .val (.int p4), .val (.int p5), .val (.int p6), .val (.int (2 : Int32)), .val (.int i1), .val (.int j1), .val (.int i2), .val (.int j2), .val (.ref b1), .val (.ref b228), .val (.ref b779), .val (own_or ((own_at i2 (0 : Int32) (.ref t2) (own_at i1 (0 : Int32) (.ref t1) .null))) b3), .val (own_or ((own_at i2 (1 : Int32) (.ref t2) (own_at i1 (1 : Int32) (.ref t1) .null))) b116), .val (own_or ((own_at i2 (2 : Int32) (.ref t2) (own_at i1 (2 : Int32) (.ref t1) .null))) b163)] [(.ref (own_e2 i1 i2 (1 : Int32) b116 t1 t2)), (own_or ((own_at i2 (1 : Int32) (.ref t2) (own_at i1 (1 : Int32) (.ref t1) .null))) b116)])) X1091 hx rfl (own_orR (own_atR (rfl : Value.isRef (.ref t2) = true) (own_atR (rfl : Value.isRef (.ref t1) = true) (rfl : Value.isRef .null = true)))) rfl (pc0 := 280) (pc' := 283) (same := true) rfl (hb hby at_280) rfl (decide_eq_true (own_fin2 i1 i2 (1 : Int32) b116 t1 t2)) (by decide) (by decide) (XS.aload X1091.here hx rfl (hb hby at_283) rfl (own_orR (own_atR (rfl : Value.isRef (.ref t2) = true) (own_atR (rfl : Value.isRef (.ref t1) = true) (rfl : Value.isRef .null = true)))) (XS.aload X1091.here hx rfl (hb hby at_285) rfl rfl (XS.iload X1091.here hx rfl (hb hby at_287) rfl (XS.iload X1091.here hx rfl (hb hby at_289) rfl (XS.iload X1091.here hx rfl (hb hby at_291) rfl (XS.iload X1091.here hx rfl (hb hby at_293) rfl (XS.iload X1091.here hx rfl (hb hby at_295) rfl (XS.iconst X1091.here hx rfl (hb hby at_297) k)))))))))) ?_
          show GoW p e below s _ _ _ T1091 (mkF m 298 #[.val (.int p1), .val (.int p2), .val (.int p3), .val (.int p4), .val (.int p5), .val (.int p6), .val (.int (2 : Int32)), .val (.int i1), .val (.int j1), .val (.int i2), .val (.int j2), .val (.ref b1), .val (.ref b228), .val (.ref b779), .val (own_or ((own_at i2 (0 : Int32) (.ref t2) (own_at i1 (0 : Int32) (.ref t1) .null))) b3), .val (own_or ((own_at i2 (1 : Int32) (.ref t2) (own_at i1 (1 : Int32) (.ref t1) .null))) b116), .val (own_or ((own_at i2 (2 : Int32) (.ref t2) (own_at i1 (2 : Int32) (.ref t1) .null))) b163)] [(.int (2 : Int32)), (.int j2), (.int i2), (.int j1), (.int i1), (.int (2 : Int32)), (.ref b1), (own_or ((own_at i2 (2 : Int32) (.ref t2) (own_at i1 (2 : Int32) (.ref t1) .null))) b163)])
          obtain ⟨_, _, ⟨T1093, L1093, k1093, n1093⟩, -, X1093, ⟨Lc1093, hQ1093, l1093, y1093, z1093⟩, st1093⟩ := Jvm.LawKit.callS X1091 hx (y := xm19) hown168 (mvT hZ168 (tw169 hw)) (mvT hZ168 (tw170 hw)) (mvT hZ168 (tw171 hw)) (mvT hZ168 (tw172 hw)) (by decide) (backOf (W := 1) (rm_expect2 l Z a0 hw [] b1 i1 j1 i2 j2 (2 : Int32) k1 b3 b116 b163 b163 t1 t2 T1036.heap n0 f1046 f1044 (⟨rfl, by decide, by decide⟩) pk_j1 pk_j2) hZ168 (tw172 hw) (tw171 hw) (by decide) (by decide)) (g := (mkF m 298 #[.val (.int p1), .val (.int p2), .val (.int p3), .val (.int p4), .val (.int p5), .val (.int p6), .val (.int (2 : Int32)), .val (.int i1), .val (.int j1), .val (.int i2), .val (.int j2), .val (.ref b1), .val (.ref b228), .val (.ref b779), .val (own_or ((own_at i2 (0 : Int32) (.ref t2) (own_at i1 (0 : Int32) (.ref t1) .null))) b3), .val (own_or ((own_at i2 (1 : Int32) (.ref t2) (own_at i1 (1 : Int32) (.ref t1) .null))) b116), .val (own_or ((own_at i2 (2 : Int32) (.ref t2) (own_at i1 (2 : Int32) (.ref t1) .null))) b163)] [(.int (2 : Int32)), (.int j2), (.int i2), (.int j1), (.int i1), (.int (2 : Int32)), (.ref b1), (own_or ((own_at i2 (2 : Int32) (.ref t2) (own_at i1 (2 : Int32) (.ref t1) .null))) b163)])) rfl (by rw [hml]; rfl) (argsL := [(.ref b1), (.int (2 : Int32)), (.int i1), (.int j1), (.int i2), (.int j2), (.int (2 : Int32))]) (rest := [(own_or ((own_at i2 (2 : Int32) (.ref t2) (own_at i1 (2 : Int32) (.ref t1) .null))) b163)]) (lenOf pd_11 rfl) rfl (by show 2 * 0 + _ ≤ _; simp only [List.map, List.sum_cons, List.sum_nil, own_cat ((own_orR (own_atR (rfl : Value.isRef (.ref t2) = true) (own_atR (rfl : Value.isRef (.ref t1) = true) (rfl : Value.isRef .null = true)))))]; decide) (hb hby at_298) (fun _ _ => ⟨rfl, eq1091, (by decide : 20 + 0 ≤ _), (by decide : 76 + 0 ≤ _)⟩)
          dsimp only [Pt.U, Pt.locs, Pt.cells, Pt.slots] at X1093 l1093 y1093 z1093 st1093 hQ1093
          subst l1093 y1093 z1093
          obtain ⟨rfl, N1093q, eq1093⟩ := hQ1093
          have N1094 := Fr.app N1092 N1093q
          refine GoW.step (fun _ k => st1093 _ (Jvm.RoadKit.acmp (g := (mkF m 301 #[.val (.int p1), .val (.int p2), .val (.int p3), .val (.int p4), .val (.int p5), .val (.int p6), .val (.int (2 : Int32)), .val (.int i1), .val (.int j1), .val (.int i2), .val (.int j2), .val (.ref b1), .val (.ref b228), .val (.ref b779), .val (own_or ((own_at i2 (0 : Int32) (.ref t2) (own_at i1 (0 : Int32) (.ref t1) .null))) b3), .val (own_or ((own_at i2 (1 : Int32) (.ref t2) (own_at i1 (1 : Int32) (.ref t1) .null))) b116), .val (own_or ((own_at i2 (2 : Int32) (.ref t2) (own_at i1 (2 : Int32) (.ref t1) .null))) b163)] [(.ref (own_e2 i1 i2 (2 : Int32) b163 t1 t2)), (own_or ((own_at i2 (2 : Int32) (.ref t2) (own_at i1 (2 : Int32) (.ref t1) .null))) b163)])) X1093 hx rfl (own_orR (own_atR (rfl : Value.isRef (.ref t2) = true) (own_atR (rfl : Value.isRef (.ref t1) = true) (rfl : Value.isRef .null = true)))) rfl (pc0 := 301) (pc' := 304) (same := true) rfl (hb hby at_301) rfl (decide_eq_true (own_fin2 i1 i2 (2 : Int32) b163 t1 t2)) (by decide) (by decide) (XS.iconst X1093.here hx rfl (hb hby at_304) (XS.goto X1093.here hx rfl (pc0 := 305) (pc' := 309) rfl (hb hby at_305) (by decide) (by decide) k)))) ?_
          show GoW p e below s _ _ _ T1093 (mkF m 309 #[.val (.int p1), .val (.int p2), .val (.int p3), .val (.int p4), .val (.int p5), .val (.int p6), .val (.int (2 : Int32)), .val (.int i1), .val (.int j1), .val (.int i2), .val (.int j2), .val (.ref b1), .val (.ref b228), .val (.ref b779), .val (own_or ((own_at i2 (0 : Int32) (.ref t2) (own_at i1 (0 : Int32) (.ref t1) .null))) b3), .val (own_or ((own_at i2 (1 : Int32) (.ref t2) (own_at i1 (1 : Int32) (.ref t1) .null))) b116), .val (own_or ((own_at i2 (2 : Int32) (.ref t2) (own_at i1 (2 : Int32) (.ref t1) .null))) b163)] [(.int (1 : Int32))])
          have f1095 := (Nat.le_trans (Nat.le_trans (Nat.le_trans (Nat.le_trans (Nat.le_trans (Nat.le_trans (Nat.le_trans (Nat.le_trans (Nat.le_trans (Nat.le_trans (Nat.le_trans (Nat.le_trans hk168 K202.1) (Keep.of_wr W206).1) E228.1) K258.1) E699.1) K709.1) K720.1) E722.1) K733.1) K777.1) E779.1) K1036.1)
          exact GoW.retN X1093 hS168 hx hlk (t := .boolean) Bd.returns (by simp) (hb hby at_309) eq1093 f1095 ⟨rfl, N1094⟩ (by decide) (by decide)
      by_cases hf2 : (p6 &&& (4 : Int32)) = (0 : Int32)
      · refine GoW.step (fun _ k => XS.ifYes X168.here hx rfl (pc0 := 112) (pc' := 119) rfl (hb hby at_112) rfl ((if0 _ _).trans (teq hf2).1) (by decide) (by decide) (XS.iconst X168.here hx rfl (hb hby at_119) k)) ?_
        show GoW p e below s _ _ _ T168 (mkF m 120 #[.val (.int p1), .val (.int p2), .val (.int p3), .val (.int p4), .val (.int p5), .val (.int p6), .val (.int kk), .val (.int i1), .val (.int j1), .val (.int i2), .val (.int j2), .val (.ref b1), .unset, .unset, .unset, .unset, .unset] [(.int (0 : Int32)), (.ref a168), (.ref b163), (.ref b163), (.int (2 : Int32)), (.ref b1)])
        exact J2 (0 : Int32)
      · refine GoW.step (fun _ k => XS.ifNo X168.here hx rfl (hb hby at_112) rfl ((if0 _ _).trans (feq hf2).1) (XS.iconst X168.here hx rfl (hb hby at_115) (XS.goto X168.here hx rfl (pc0 := 116) (pc' := 120) rfl (hb hby at_116) (by decide) (by decide) k))) ?_
        show GoW p e below s _ _ _ T168 (mkF m 120 #[.val (.int p1), .val (.int p2), .val (.int p3), .val (.int p4), .val (.int p5), .val (.int p6), .val (.int kk), .val (.int i1), .val (.int j1), .val (.int i2), .val (.int j2), .val (.ref b1), .unset, .unset, .unset, .unset, .unset] [(.int (1 : Int32)), (.ref a168), (.ref b163), (.ref b163), (.int (2 : Int32)), (.ref b1)])
        exact J2 (1 : Int32)
    by_cases hf1 : (p6 &&& (2 : Int32)) = (0 : Int32)
    · refine GoW.step (fun _ k => XS.ifYes X121.here hx rfl (pc0 := 86) (pc' := 93) rfl (hb hby at_86) rfl ((if0 _ _).trans (teq hf1).1) (by decide) (by decide) (XS.iconst X121.here hx rfl (hb hby at_93) k)) ?_
      show GoW p e below s _ _ _ T121 (mkF m 94 #[.val (.int p1), .val (.int p2), .val (.int p3), .val (.int p4), .val (.int p5), .val (.int p6), .val (.int kk), .val (.int i1), .val (.int j1), .val (.int i2), .val (.int j2), .val (.ref b1), .unset, .unset, .unset, .unset, .unset] [(.int (0 : Int32)), (.ref a121), (.ref b116), (.ref b116), (.int (1 : Int32)), (.ref b1)])
      exact J1 (0 : Int32)
    · refine GoW.step (fun _ k => XS.ifNo X121.here hx rfl (hb hby at_86) rfl ((if0 _ _).trans (feq hf1).1) (XS.iconst X121.here hx rfl (hb hby at_89) (XS.goto X121.here hx rfl (pc0 := 90) (pc' := 94) rfl (hb hby at_90) (by decide) (by decide) k))) ?_
      show GoW p e below s _ _ _ T121 (mkF m 94 #[.val (.int p1), .val (.int p2), .val (.int p3), .val (.int p4), .val (.int p5), .val (.int p6), .val (.int kk), .val (.int i1), .val (.int j1), .val (.int i2), .val (.int j2), .val (.ref b1), .unset, .unset, .unset, .unset, .unset] [(.int (1 : Int32)), (.ref a121), (.ref b116), (.ref b116), (.int (1 : Int32)), (.ref b1)])
      exact J1 (1 : Int32)
  by_cases hf0 : (p6 &&& (1 : Int32)) = (0 : Int32)
  · refine GoW.step (fun _ k => XS.ifYes X8.here hx rfl (pc0 := 60) (pc' := 67) rfl (hb hby at_60) rfl ((if0 _ _).trans (teq hf0).1) (by decide) (by decide) (XS.iconst X8.here hx rfl (hb hby at_67) k)) ?_
    show GoW p e below s _ _ _ T8 (mkF m 68 #[.val (.int p1), .val (.int p2), .val (.int p3), .val (.int p4), .val (.int p5), .val (.int p6), .val (.int kk), .val (.int i1), .val (.int j1), .val (.int i2), .val (.int j2), .val (.ref b1), .unset, .unset, .unset, .unset, .unset] [(.int (0 : Int32)), (.ref a8), (.ref b3), (.ref b3), (.int (0 : Int32)), (.ref b1)])
    exact J0 (0 : Int32)
  · refine GoW.step (fun _ k => XS.ifNo X8.here hx rfl (hb hby at_60) rfl ((if0 _ _).trans (feq hf0).1) (XS.iconst X8.here hx rfl (hb hby at_63) (XS.goto X8.here hx rfl (pc0 := 64) (pc' := 68) rfl (hb hby at_64) (by decide) (by decide) k))) ?_
    show GoW p e below s _ _ _ T8 (mkF m 68 #[.val (.int p1), .val (.int p2), .val (.int p3), .val (.int p4), .val (.int p5), .val (.int p6), .val (.int kk), .val (.int i1), .val (.int j1), .val (.int i2), .val (.int j2), .val (.ref b1), .unset, .unset, .unset, .unset, .unset] [(.int (1 : Int32)), (.ref a8), (.ref b3), (.ref b3), (.int (0 : Int32)), (.ref b1)])
    exact J0 (1 : Int32)

set_option maxRecDepth 65536 in
set_option maxHeartbeats 40000000 in
theorem comes_1 {Post : Tables → Env → Array Value → State → Outcome → State → Prop} (hpost : ∀ tb e args s v u, (limb_1_1.after args s (.returned v) u = true ∧ limb_1_2.after args s (.returned v) u = true ∧ True) → ReturnedEndW s (.returned v) u (Jvm.fieldLocs frame_1_writes args s ++ Jvm.arrayLocs frame_1_arrays args s ++ Jvm.staticLocs frame_1_statics s) 48 3264 → Post tb e args s (.returned v) u) :
    ArmFor flags0 classFile x code maxLocals ret World_1 tables_1 room_1 Calls_1 rest_1 Pre_1 Post := by
  intro l hfl _ _ p e ha hc hk s m args below hf hA hF happ hP
  obtain ⟨hcalls, hrest, hpre⟩ := hP
  obtain ⟨-, -, -, hnamed, -, -, -, hat⟩ := (Spec.applies_iff hf).mp happ
  obtain ⟨hg, hn⟩ := and_e (Cond.before_iff.mp (show (Jvm.Cond.and given_1 narrow_1).before args s = true from hpre))
  obtain ⟨gv1, gv2⟩ := and_e hg
  obtain ⟨gv3, gv4⟩ := and_e gv2
  obtain ⟨gv5, gv6⟩ := and_e gv4
  obtain ⟨gv7, gv8⟩ := and_e gv6
  obtain ⟨gv9, gv10⟩ := and_e gv8
  obtain ⟨gv11, gv12⟩ := and_e gv10
  obtain ⟨w0, w1, w2, w3, w4, w5, rfl⟩ : ∃ w0 w1 w2 w3 w4 w5 : Value, args = #[w0, w1, w2, w3, w4, w5] := by
    have hs : args.size = 6 := by simpa [Cond.value, given_1] using gv1
    obtain ⟨L⟩ := args
    match L, hs with
    | [w0, w1, w2, w3, w4, w5], _ => exact ⟨w0, w1, w2, w3, w4, w5, rfl⟩
  have hw := fun d (hd : d ∈ tables_1) => atoms_spec (ws := Jvm.Cond.code x code maxLocals ret :: tables_1) hat d (List.mem_cons_of_mem _ hd)
  have hfit : Fit s := fun {y c} hc i hi => by
    obtain ⟨ha, rfl⟩ := Array.getElem?_eq_some_iff.mp hc
    have q := List.all_eq_true.mp ((Array.all_eq_true_iff_forall_mem.mp hF) _ (Array.getElem_mem ha)) i (List.mem_range.mpr hi)
    simpa [Array.getElem?_eq_getElem hi] using q
  obtain ⟨i0, ei0⟩ := is_v gv3
  obtain rfl : w0 = (.int i0) := Option.some.inj ei0
  obtain ⟨i1, ei1⟩ := is_v gv5
  obtain rfl : w1 = (.int i1) := Option.some.inj ei1
  obtain ⟨i2, ei2⟩ := is_v gv7
  obtain rfl : w2 = (.int i2) := Option.some.inj ei2
  obtain ⟨i3, ei3⟩ := is_v gv9
  obtain rfl : w3 = (.int i3) := Option.some.inj ei3
  obtain ⟨i4, ei4⟩ := is_v gv11
  obtain rfl : w4 = (.int i4) := Option.some.inj ei4
  obtain ⟨i5, ei5⟩ := is_v gv12
  obtain rfl : w5 = (.int i5) := Option.some.inj ei5
  obtain ⟨hsets, hown0⟩ := atoms_of _ (rest_1_c_eq ▸ (show rest_1_c.before _ s = true from hrest))
  obtain ⟨el, eel⟩ := exa_v (Cond.before_iff.mp (hsets _ (List.mem_of_getElem? (i := 2) rfl)))
  have Z_S := Sta.start eel (Or.inl (hsets _ (List.mem_of_getElem? (i := 1) rfl)))
  have Z_E := Exa.start eel (Cond.before_iff.mp (hsets _ (List.mem_of_getElem? (i := 2) rfl)))
  obtain ⟨ela, eela⟩ := arr_v (Cond.before_iff.mp (hsets _ (List.mem_of_getElem? (i := 3) rfl)))
  have Z_F := Fld.start (fld_at eel ▸ eela)
  obtain ⟨ca, Ara⟩ := Arr.start eela (Cond.before_iff.mp (hsets _ (List.mem_of_getElem? (i := 3) rfl)))
  obtain ⟨hl1, hl2⟩ := own_len (Cond.before_iff.mp (hsets _ (List.mem_of_getElem? (i := 5) rfl))) eela Ara.1
  have Z_A : Arv s s.heap ela ca.cls (.object xs41) (0 : Int32) [] .null := Arv.start hfit Ara hl1 hl2 (by decide) rfl trivial
  obtain ⟨de, ede⟩ := arr_v (Cond.before_iff.mp (hsets _ (List.mem_of_getElem? (i := 13) rfl)))
  have Z_D := Sta.start ede (Or.inr ⟨(tw92 hw), (hsets _ (List.mem_of_getElem? (i := 9) rfl))⟩)
  obtain ⟨cd, Ard⟩ := Arr.start ede (Cond.before_iff.mp (hsets _ (List.mem_of_getElem? (i := 13) rfl)))
  obtain ⟨hd1, hd2⟩ := own_len (Cond.before_iff.mp (hsets _ (List.mem_of_getElem? (i := 15) rfl))) ede Ard.1
  have Z_B : Arv s s.heap de cd.cls (.object xs41) (0 : Int32) [] .null := Arv.start hfit Ard hd1 hd2 (by decide) rfl trivial
  obtain ⟨n, o, h1, h2, h3, _, L, rfl, ⟨rfl, N⟩, hq⟩ := rm_law l s _ hw tables_1 i0 i1 i2 i3 i4 i5 el ela ca.cls de cd.cls s.heap s.heap.size (Nat.le_refl _) (Old.start s) Z_S Z_E Z_F Z_A Z_D Z_B p e ha hc hk s m _ below hf ((Spec.applies_iff_loose hf).mp happ).1 ⟨rfl, State.Warmed39.refl s, rfl⟩ trivial
  refine ⟨n, _, h1, h2, h3, hpost _ _ _ _ _ _ ⟨Cond.after_iff.mpr rfl, Cond.after_iff.mpr (eq_i res_at (Term.int_eval (1)) rfl), trivial⟩ ⟨hq.1, hq.2.1, hq.2.2.1, (hq.2.2.2.sift fun y hy => Or.inr (N y hy)).mono (by decide) (by decide)⟩⟩
theorem main_1_1 : Claimed_1_1 := comes_1 fun _ _ _ _ _ _ h hF => ⟨h.1, hF⟩
theorem main_1_2 : Claimed_1_2 := comes_1 fun _ _ _ _ _ _ h hF => ⟨h.2.1, hF⟩
end Jvm.Pilot.@@N@@
namespace Jvm.Pilot.@@N@@
open Jvm Jvm.ClassFile Sem Op Lib Jvm.Free Jvm.Stand Jvm.Pilot.@@N@@.Jvm.D
/-! MADE BY PROGRAM (witnessworld.py) out of the Statement's table words and the real class files: 41 classes; the members and pool entries that the words name. The judged class is class 1, her method 2. -/
namespace start1
open Jvm.ClassFile
def u (s : String) : CpInfo := .utf8 (stringToUtf16 s)
/-- a pool by its gaps: so many unusable entries, then the entry; so many at the end -/
def gap : Nat → List CpInfo → List CpInfo
  | 0, r => r
  | n + 1, r => .unusable :: gap n r
def poolList (es : List (Nat × CpInfo)) (last : Nat) : List CpInfo := es.foldr (fun e r => gap e.1 (e.2 :: r)) (gap last [])
def pool (es : List (Nat × CpInfo)) (last : Nat) : Array CpInfo := ⟨poolList es last⟩
def fileOf (pool : Array CpInfo) (this : Nat) (attrs : Array Attribute := #[]) (ms : Array MethodInfo := #[]) (fl : Nat := 33) (sup : Nat := 0) (ifs : Array Nat := #[]) (fds : Array FieldInfo := #[]) : ClassFile where
  minorVersion := 0
  majorVersion := 65
  constantPool := pool
  accessFlags := fl
  thisClass := this
  superClass := sup
  interfaces := ifs
  fields := fds
  methods := ms
  attributes := attrs
def plain (name : String) (sup : Option ClassId) : Class where
  name := name
  kind := .ordinary
  loader := none
  accessFlags := 33
  super := sup
  interfaces := #[]
  cf := none
  fields := #[]
  methods := #[]
  instanceTypes := #[]
  staticTypes := #[]
  resolved := #[]
  callSites := []
  init := .initialized
  statics := none
  mirror := none

def pool0 : Array CpInfo := pool [(5, u "<init>"), (0, u "()V"), (1, .class_ 10), (1, u "java/lang/Object")] 113

def k0c0 : Code := { maxStack := 0, maxLocals := 1, code := object_method_1_code, exceptionTable := #[], attributes := #[] }
def k0m0 : Method := { name := "<init>", desc := "()V", sig := { parameters := [], returnType := none }, accessFlags := 1, code := some k0c0 }
/-- java/lang/Object -/
def k0 : Class := { plain "java/lang/Object" none with
  accessFlags := 33
  interfaces := #[]
  cf := some (fileOf pool0 8 #[] #[{ accessFlags := 1, nameIndex := 5, descriptorIndex := 6, attributes := #[] }] 33 0 #[] #[])
  fields := #[]
  methods := #[k0m0]
  instanceTypes := #[]
  staticTypes := #[]
  resolved := Array.replicate 124 none
  statics := none }

def pool1 : Array CpInfo := pool [(2, .class_ 4), (0, .nameAndType 5 6), (0, u "java/lang/Object"), (0, u "<init>"), (0, u "()V"), (0, .integer 2147483647), (0, .class_ 9), (0, u "com/example/abstract_to_verify/abstracttoverify/model/Variable"), (0, .string 11), (0, u "x"), (0, .methodref 8 13), (0, .nameAndType 5 14), (0, u "(Ljava/lang/String;ZI)V"), (0, .string 16), (0, u "y"), (0, .string 18), (0, u "z"), (0, .class_ 20), (0, u "java/util/ArrayList"), (0, .methodref 19 3), (0, .class_ 23), (0, u "com/example/abstract_to_verify/abstracttoverify/model/Assignment"), (0, .methodref 22 25), (0, .nameAndType 5 26), (0, u "(Lcom/example/abstract_to_verify/abstracttoverify/model/Variable;Lcom/example/abstract_to_verify/abstracttoverify/model/Term;)V"), (0, .interfaceMethodref 28 29), (0, .class_ 30), (0, .nameAndType 31 32), (0, u "java/util/List"), (0, u "add"), (0, u "(Ljava/lang/Object;)Z"), (0, .class_ 34), (0, u "com/example/abstract_to_verify/abstracttoverify/model/Substitution"), (0, .methodref 33 36), (0, .nameAndType 5 37), (0, u "(ILjava/util/List;)V"), (0, .methodref 33 39), (0, .nameAndType 40 41), (0, u "variable"), (0, u "(Lcom/example/abstract_to_verify/abstracttoverify/model/Variable;)Lcom/example/abstract_to_verify/abstracttoverify/model/Term;"), (0, .methodref 43 44), (0, .class_ 45), (0, .nameAndType 46 47), (0, u "com/example/abstract_to_verify/abstracttoverify/model/SubstitutionVariablePinLaw"), (0, u "expect"), (0, u "([Lcom/example/abstract_to_verify/abstracttoverify/model/Variable;IIIIII)Lcom/example/abstract_to_verify/abstracttoverify/model/Term;"), (5, u "law"), (0, u "(IIIIII)Z")] 6

def k1m0 : Method := { name := "<init>", desc := "()V", sig := { parameters := [], returnType := none }, accessFlags := 1, code := none }
def k1c1 : Code := { maxStack := 2, maxLocals := 8, code := method_2_code, exceptionTable := #[], attributes := #[] }
def k1m1 : Method := { name := "expect", desc := "([Lcom/example/abstract_to_verify/abstracttoverify/model/Variable;IIIIII)Lcom/example/abstract_to_verify/abstracttoverify/model/Term;", sig := { parameters := [(.array (.object "com/example/abstract_to_verify/abstracttoverify/model/Variable")), .int, .int, .int, .int, .int, .int], returnType := some (.object "com/example/abstract_to_verify/abstracttoverify/model/Term") }, accessFlags := 10, code := some k1c1 }
def k1c2 : Code := { maxStack := 8, maxLocals := 17, code := code, exceptionTable := #[], attributes := #[] }
def k1m2 : Method := { name := "law", desc := "(IIIIII)Z", sig := { parameters := [.int, .int, .int, .int, .int, .int], returnType := some .boolean }, accessFlags := 9, code := some k1c2 }
/-- com/example/abstract_to_verify/abstracttoverify/model/SubstitutionVariablePinLaw -/
def k1 : Class := { plain "com/example/abstract_to_verify/abstracttoverify/model/SubstitutionVariablePinLaw" (some 0) with
  accessFlags := 49
  interfaces := #[]
  cf := some (fileOf pool1 43 #[] #[{ accessFlags := 1, nameIndex := 5, descriptorIndex := 6, attributes := #[] }, { accessFlags := 10, nameIndex := 46, descriptorIndex := 47, attributes := #[] }, { accessFlags := 9, nameIndex := 53, descriptorIndex := 54, attributes := #[] }] 49 2 #[] #[])
  fields := #[]
  methods := #[k1m0, k1m1, k1m2]
  instanceTypes := #[]
  staticTypes := #[]
  resolved := Array.replicate 61 none
  statics := none }

def pool2 : Array CpInfo := pool [(1, .methodref 2 3), (0, .class_ 4), (0, .nameAndType 5 6), (0, u "java/lang/Object"), (0, u "<init>"), (0, u "()V"), (0, .interfaceMethodref 8 9), (0, .class_ 10), (0, .nameAndType 11 12), (0, u "java/util/List"), (0, u "iterator"), (0, u "()Ljava/util/Iterator;"), (0, .interfaceMethodref 14 15), (0, .class_ 16), (0, .nameAndType 17 18), (0, u "java/util/Iterator"), (0, u "hasNext"), (0, u "()Z"), (0, .interfaceMethodref 14 20), (0, .nameAndType 21 22), (0, u "next"), (0, u "()Ljava/lang/Object;"), (0, .class_ 24), (0, u "com/example/abstract_to_verify/abstracttoverify/model/Expression"), (0, .fieldref 23 26), (0, .nameAndType 27 28), (0, u "depth"), (0, u "I"), (0, .methodref 30 31), (0, .class_ 32), (0, .nameAndType 33 34), (0, u "java/lang/Math"), (0, u "max"), (0, u "(II)I"), (0, u "(Ljava/util/List;)V")] 8

def k2c0 : Code := { maxStack := 3, maxLocals := 5, code := prog_83_method_1_code, exceptionTable := #[], attributes := #[] }
def k2m0 : Method := { name := "<init>", desc := "(Ljava/util/List;)V", sig := { parameters := [(.object "java/util/List")], returnType := none }, accessFlags := 0, code := some k2c0 }
/-- com/example/abstract_to_verify/abstracttoverify/model/Expression -/
def k2 : Class := { plain "com/example/abstract_to_verify/abstracttoverify/model/Expression" (some 0) with
  accessFlags := 1057
  interfaces := #[]
  cf := some (fileOf pool2 23 #[] #[{ accessFlags := 0, nameIndex := 5, descriptorIndex := 35, attributes := #[] }] 1057 2 #[] #[{ accessFlags := 18, nameIndex := 27, descriptorIndex := 28, attributes := #[] }])
  fields := #[{ name := "depth", type := .int, accessFlags := 18, slot := 0, constantValue := 0 }]
  methods := #[k2m0]
  instanceTypes := #[.int]
  staticTypes := #[]
  resolved := Array.replicate 44 none
  statics := none }

def pool3 : Array CpInfo := pool [(1, .methodref 2 3), (0, .class_ 4), (0, .nameAndType 5 6), (0, u "com/example/abstract_to_verify/abstracttoverify/model/Expression"), (0, u "<init>"), (0, u "(Ljava/util/List;)V"), (10, .class_ 18), (0, u "com/example/abstract_to_verify/abstracttoverify/model/Term"), (14, .class_ 34), (0, u "com/example/abstract_to_verify/abstracttoverify/model/Term$Visitor")] 2

def k3c0 : Code := { maxStack := 2, maxLocals := 2, code := prog_110_method_1_code, exceptionTable := #[], attributes := #[] }
def k3m0 : Method := { name := "<init>", desc := "(Ljava/util/List;)V", sig := { parameters := [(.object "java/util/List")], returnType := none }, accessFlags := 0, code := some k3c0 }
/-- com/example/abstract_to_verify/abstracttoverify/model/Term -/
def k3 : Class := { plain "com/example/abstract_to_verify/abstracttoverify/model/Term" (some 2) with
  accessFlags := 1057
  interfaces := #[]
  cf := some (fileOf pool3 17 #[.nestMembers #[33]] #[{ accessFlags := 0, nameIndex := 5, descriptorIndex := 6, attributes := #[] }] 1057 2 #[] #[])
  fields := #[]
  methods := #[k3m0]
  instanceTypes := #[.int]
  staticTypes := #[]
  resolved := Array.replicate 37 none
  statics := none }

def pool4 : Array CpInfo := pool [(1, .class_ 2), (0, u "com/example/abstract_to_verify/abstracttoverify/model/Declaration"), (0, .class_ 4), (0, u "java/lang/Object"), (9, .class_ 15), (0, u "com/example/abstract_to_verify/abstracttoverify/model/Declaration$Type"), (0, .class_ 17), (0, u "com/example/abstract_to_verify/abstracttoverify/model/Declaration$Type$2"), (0, .class_ 19), (0, u "com/example/abstract_to_verify/abstracttoverify/model/Declaration$Type$1")] 2

/-- com/example/abstract_to_verify/abstracttoverify/model/Declaration -/
def k4 : Class := { plain "com/example/abstract_to_verify/abstracttoverify/model/Declaration" (some 0) with
  accessFlags := 1537
  interfaces := #[]
  cf := some (fileOf pool4 1 #[.nestMembers #[14, 16, 18]] #[] 1537 3 #[] #[])
  fields := #[]
  methods := #[]
  instanceTypes := #[]
  staticTypes := #[]
  resolved := Array.replicate 22 none
  statics := none }

def pool5 : Array CpInfo := pool [(1, .interfaceMethodref 2 3), (0, .class_ 4), (0, .nameAndType 5 6), (0, u "java/util/List"), (0, u "of"), (0, u "()Ljava/util/List;"), (0, .methodref 8 9), (0, .class_ 10), (0, .nameAndType 11 12), (0, u "com/example/abstract_to_verify/abstracttoverify/model/Term"), (0, u "<init>"), (0, u "(Ljava/util/List;)V"), (0, .fieldref 14 15), (0, .class_ 16), (0, .nameAndType 17 18), (0, u "com/example/abstract_to_verify/abstracttoverify/model/Variable"), (0, u "name"), (0, u "Ljava/lang/String;"), (0, .fieldref 14 20), (0, .nameAndType 21 22), (0, u "locationCounter"), (0, u "Z"), (0, .fieldref 14 24), (0, .nameAndType 25 26), (0, u "index"), (0, u "I"), (18, .class_ 46), (0, u "com/example/abstract_to_verify/abstracttoverify/model/Declaration"), (0, u "(Ljava/lang/String;ZI)V"), (7, u "()I")] 10

def k5c0 : Code := { maxStack := 2, maxLocals := 4, code := prog_117_method_1_code, exceptionTable := #[], attributes := #[] }
def k5m0 : Method := { name := "<init>", desc := "(Ljava/lang/String;ZI)V", sig := { parameters := [(.object "java/lang/String"), .boolean, .int], returnType := none }, accessFlags := 0, code := some k5c0 }
def k5c1 : Code := { maxStack := 1, maxLocals := 1, code := prog_117_method_5_code, exceptionTable := #[], attributes := #[] }
def k5m1 : Method := { name := "index", desc := "()I", sig := { parameters := [], returnType := some .int }, accessFlags := 1, code := some k5c1 }
/-- com/example/abstract_to_verify/abstracttoverify/model/Variable -/
def k5 : Class := { plain "com/example/abstract_to_verify/abstracttoverify/model/Variable" (some 3) with
  accessFlags := 49
  interfaces := #[4]
  cf := some (fileOf pool5 14 #[] #[{ accessFlags := 0, nameIndex := 11, descriptorIndex := 47, attributes := #[] }, { accessFlags := 1, nameIndex := 25, descriptorIndex := 55, attributes := #[] }] 49 8 #[45] #[{ accessFlags := 18, nameIndex := 17, descriptorIndex := 18, attributes := #[] }, { accessFlags := 18, nameIndex := 21, descriptorIndex := 22, attributes := #[] }, { accessFlags := 18, nameIndex := 25, descriptorIndex := 26, attributes := #[] }])
  fields := #[{ name := "name", type := (.object "java/lang/String"), accessFlags := 18, slot := 1, constantValue := 0 }, { name := "locationCounter", type := .boolean, accessFlags := 18, slot := 2, constantValue := 0 }, { name := "index", type := .int, accessFlags := 18, slot := 3, constantValue := 0 }]
  methods := #[k5m0, k5m1]
  instanceTypes := #[.int, (.object "java/lang/String"), .boolean, .int]
  staticTypes := #[]
  resolved := Array.replicate 66 none
  statics := none }

def pool6 : Array CpInfo := pool [(1, .class_ 2), (0, u "java/io/Serializable"), (0, .class_ 4), (0, u "java/lang/Object")] 2

/-- java/io/Serializable -/
def k6 : Class := { plain "java/io/Serializable" (some 0) with
  accessFlags := 1537
  interfaces := #[]
  cf := some (fileOf pool6 1 #[] #[] 1537 3 #[] #[])
  fields := #[]
  methods := #[]
  instanceTypes := #[]
  staticTypes := #[]
  resolved := Array.replicate 7 none
  statics := none }

def pool7 : Array CpInfo := pool [(1, .class_ 2), (0, u "java/lang/Comparable"), (0, .class_ 4), (0, u "java/lang/Object")] 7

/-- java/lang/Comparable -/
def k7 : Class := { plain "java/lang/Comparable" (some 0) with
  accessFlags := 1537
  interfaces := #[]
  cf := some (fileOf pool7 1 #[] #[] 1537 3 #[] #[])
  fields := #[]
  methods := #[]
  instanceTypes := #[]
  staticTypes := #[]
  resolved := Array.replicate 12 none
  statics := none }

def pool8 : Array CpInfo := pool [(2, .class_ 4), (1, u "java/lang/CharSequence"), (42, .class_ 48), (0, u "java/lang/CharSequence$1CodePointIterator"), (10, .class_ 60), (0, u "java/lang/CharSequence$1CharIterator"), (5, .class_ 67), (0, u "java/lang/Object")] 63

/-- java/lang/CharSequence -/
def k8 : Class := { plain "java/lang/CharSequence" (some 0) with
  accessFlags := 1537
  interfaces := #[]
  cf := some (fileOf pool8 2 #[.nestMembers #[47, 59]] #[] 1537 66 #[] #[])
  fields := #[]
  methods := #[]
  instanceTypes := #[]
  staticTypes := #[]
  resolved := Array.replicate 131 none
  statics := none }

def pool9 : Array CpInfo := pool [(1, .class_ 2), (0, u "java/lang/constant/Constable"), (0, .class_ 4), (0, u "java/lang/Object")] 6

/-- java/lang/constant/Constable -/
def k9 : Class := { plain "java/lang/constant/Constable" (some 0) with
  accessFlags := 1537
  interfaces := #[]
  cf := some (fileOf pool9 1 #[] #[] 1537 3 #[] #[])
  fields := #[]
  methods := #[]
  instanceTypes := #[]
  staticTypes := #[]
  resolved := Array.replicate 11 none
  statics := none }

def pool10 : Array CpInfo := pool [(1, .class_ 2), (0, u "java/lang/constant/ConstantDesc"), (0, .class_ 4), (0, u "java/lang/Object")] 32

/-- java/lang/constant/ConstantDesc -/
def k10 : Class := { plain "java/lang/constant/ConstantDesc" (some 0) with
  accessFlags := 1537
  interfaces := #[]
  cf := some (fileOf pool10 1 #[] #[] 1537 3 #[] #[])
  fields := #[]
  methods := #[]
  instanceTypes := #[]
  staticTypes := #[]
  resolved := Array.replicate 37 none
  statics := none }

def pool11 : Array CpInfo := pool [(2, .class_ 4), (1, u "java/lang/Object"), (0, u "<init>"), (0, u "()V"), (3, .class_ 12), (1, u "java/lang/String"), (0, u "value"), (0, u "[B"), (2, u "coder"), (0, u "B"), (2, u "hash"), (0, u "I"), (2, u "hashIsZero"), (0, u "Z"), (13, u "COMPACT_STRINGS"), (534, .class_ 576), (0, u "java/lang/CharSequence"), (22, u "CASE_INSENSITIVE_ORDER"), (0, u "Ljava/util/Comparator;"), (500, u "serialPersistentFields"), (0, u "[Ljava/io/ObjectStreamField;"), (0, .class_ 1104), (0, u "java/lang/String$CaseInsensitiveComparator"), (1, .class_ 1107), (0, u "java/io/Serializable"), (0, .class_ 1109), (0, u "java/lang/Comparable"), (0, .class_ 1111), (0, u "java/lang/constant/Constable"), (0, .class_ 1113), (0, u "java/lang/constant/ConstantDesc"), (2, u "serialVersionUID"), (0, u "J"), (3, u "REPL"), (0, u "C"), (2, u "LATIN1"), (1, u "UTF16")] 323

def k11m0 : Method := { name := "<init>", desc := "()V", sig := { parameters := [], returnType := none }, accessFlags := 1, code := none }
/-- java/lang/String -/
def k11 : Class := { plain "java/lang/String" (some 0) with
  accessFlags := 49
  interfaces := #[6, 7, 8, 9, 10]
  cf := some (fileOf pool11 10 #[.nestMembers #[1103]] #[{ accessFlags := 1, nameIndex := 5, descriptorIndex := 6, attributes := #[] }] 49 2 #[1106, 1108, 575, 1110, 1112] #[{ accessFlags := 18, nameIndex := 13, descriptorIndex := 14, attributes := #[] }, { accessFlags := 18, nameIndex := 17, descriptorIndex := 18, attributes := #[] }, { accessFlags := 2, nameIndex := 21, descriptorIndex := 22, attributes := #[] }, { accessFlags := 2, nameIndex := 25, descriptorIndex := 26, attributes := #[] }, { accessFlags := 26, nameIndex := 1116, descriptorIndex := 1117, attributes := #[] }, { accessFlags := 24, nameIndex := 40, descriptorIndex := 26, attributes := #[] }, { accessFlags := 26, nameIndex := 1101, descriptorIndex := 1102, attributes := #[] }, { accessFlags := 26, nameIndex := 1121, descriptorIndex := 1122, attributes := #[] }, { accessFlags := 25, nameIndex := 599, descriptorIndex := 600, attributes := #[] }, { accessFlags := 24, nameIndex := 1125, descriptorIndex := 18, attributes := #[] }, { accessFlags := 24, nameIndex := 1127, descriptorIndex := 18, attributes := #[] }])
  fields := #[{ name := "value", type := (.array .byte), accessFlags := 18, slot := 0, constantValue := 0 }, { name := "coder", type := .byte, accessFlags := 18, slot := 1, constantValue := 0 }, { name := "hash", type := .int, accessFlags := 2, slot := 2, constantValue := 0 }, { name := "hashIsZero", type := .boolean, accessFlags := 2, slot := 3, constantValue := 0 }, { name := "serialVersionUID", type := .long, accessFlags := 26, slot := 0, constantValue := 0 }, { name := "COMPACT_STRINGS", type := .boolean, accessFlags := 24, slot := 1, constantValue := 0 }, { name := "serialPersistentFields", type := (.array (.object "java/io/ObjectStreamField")), accessFlags := 26, slot := 2, constantValue := 0 }, { name := "REPL", type := .char, accessFlags := 26, slot := 3, constantValue := 0 }, { name := "CASE_INSENSITIVE_ORDER", type := (.object "java/util/Comparator"), accessFlags := 25, slot := 4, constantValue := 0 }, { name := "LATIN1", type := .byte, accessFlags := 24, slot := 5, constantValue := 0 }, { name := "UTF16", type := .byte, accessFlags := 24, slot := 6, constantValue := 0 }]
  methods := #[k11m0]
  instanceTypes := #[(.array .byte), .byte, .int, .boolean]
  staticTypes := #[.long, .boolean, (.array (.object "java/io/ObjectStreamField")), .char, (.object "java/util/Comparator"), .byte, .byte]
  resolved := Array.replicate 1451 none
  statics := none }

def pool12 : Array CpInfo := pool [(8, .class_ 10), (1, u "java/lang/Iterable"), (24, .class_ 36), (0, u "java/lang/Object")] 25

/-- java/lang/Iterable -/
def k12 : Class := { plain "java/lang/Iterable" (some 0) with
  accessFlags := 1537
  interfaces := #[]
  cf := some (fileOf pool12 8 #[] #[] 1537 35 #[] #[])
  fields := #[]
  methods := #[]
  instanceTypes := #[]
  staticTypes := #[]
  resolved := Array.replicate 62 none
  statics := none }

def pool13 : Array CpInfo := pool [(10, .class_ 12), (1, u "java/util/Collection"), (47, .class_ 61), (0, u "java/lang/Object"), (0, .class_ 63), (0, u "java/lang/Iterable")] 51

/-- java/util/Collection -/
def k13 : Class := { plain "java/util/Collection" (some 0) with
  accessFlags := 1537
  interfaces := #[12]
  cf := some (fileOf pool13 10 #[] #[] 1537 60 #[62] #[])
  fields := #[]
  methods := #[]
  instanceTypes := #[]
  staticTypes := #[]
  resolved := Array.replicate 115 none
  statics := none }

def pool14 : Array CpInfo := pool [(8, .class_ 10), (1, u "java/util/SequencedCollection"), (15, .class_ 27), (0, u "java/lang/Object"), (0, .class_ 29), (0, u "java/util/Collection")] 27

/-- java/util/SequencedCollection -/
def k14 : Class := { plain "java/util/SequencedCollection" (some 0) with
  accessFlags := 1537
  interfaces := #[13]
  cf := some (fileOf pool14 8 #[] #[] 1537 26 #[28] #[])
  fields := #[]
  methods := #[]
  instanceTypes := #[]
  staticTypes := #[]
  resolved := Array.replicate 57 none
  statics := none }

def pool15 : Array CpInfo := pool [(8, .class_ 10), (1, u "java/util/List"), (49, u "add"), (3, u "(Ljava/lang/Object;)Z"), (23, u "of"), (1, .fieldref 91 92), (0, .class_ 93), (0, .nameAndType 94 95), (0, u "java/util/ImmutableCollections"), (0, u "EMPTY_LIST"), (0, u "Ljava/util/ImmutableCollections$ListN;"), (7, .class_ 104), (0, u "java/lang/Object"), (14, u "()Ljava/util/List;"), (0, .class_ 121), (0, u "java/util/SequencedCollection"), (1, u "iterator"), (0, u "()Ljava/util/Iterator;")] 126

def k15m0 : Method := { name := "iterator", desc := "()Ljava/util/Iterator;", sig := { parameters := [], returnType := some (.object "java/util/Iterator") }, accessFlags := 1025, code := none }
def k15m1 : Method := { name := "add", desc := "(Ljava/lang/Object;)Z", sig := { parameters := [(.object "java/lang/Object")], returnType := some .boolean }, accessFlags := 1025, code := none }
def k15c2 : Code := { maxStack := 1, maxLocals := 0, code := jdk_40_method_36_code, exceptionTable := #[], attributes := #[] }
def k15m2 : Method := { name := "of", desc := "()Ljava/util/List;", sig := { parameters := [], returnType := some (.object "java/util/List") }, accessFlags := 9, code := some k15c2 }
/-- java/util/List -/
def k15 : Class := { plain "java/util/List" (some 0) with
  accessFlags := 1537
  interfaces := #[14]
  cf := some (fileOf pool15 8 #[] #[{ accessFlags := 1025, nameIndex := 123, descriptorIndex := 124, attributes := #[] }, { accessFlags := 1025, nameIndex := 60, descriptorIndex := 64, attributes := #[] }, { accessFlags := 9, nameIndex := 88, descriptorIndex := 119, attributes := #[] }] 1537 103 #[120] #[])
  fields := #[]
  methods := #[k15m0, k15m1, k15m2]
  instanceTypes := #[]
  staticTypes := #[]
  resolved := Array.replicate 251 none
  statics := none }

def pool16 : Array CpInfo := pool [(2, .class_ 4), (1, u "java/lang/Object"), (0, u "<init>"), (0, u "()V"), (3, .class_ 11), (0, u "java/util/ImmutableCollections$List12"), (0, .class_ 13), (0, u "java/util/ImmutableCollections$ListN"), (3, u "Z"), (29, .class_ 49), (1, u "java/util/ImmutableCollections"), (0, u "$assertionsDisabled"), (5, u "[Ljava/lang/Object;"), (5, u "EMPTY_LIST"), (0, u "Ljava/util/ImmutableCollections$ListN;"), (8, u "EMPTY_LIST_NULLS"), (22, u "SALT32L"), (0, u "J"), (2, u "REVERSE"), (6, u "archivedObjects"), (2, u "EMPTY"), (0, u "Ljava/lang/Object;"), (0, .class_ 112), (0, u "java/util/ImmutableCollections$SetN"), (5, u "EMPTY_SET"), (0, u "Ljava/util/ImmutableCollections$SetN;"), (0, .class_ 121), (0, u "java/util/ImmutableCollections$MapN"), (3, u "EMPTY_MAP"), (0, u "Ljava/util/ImmutableCollections$MapN;"), (4, u "EXPAND_FACTOR"), (0, u "I"), (36, .class_ 170), (0, u "java/util/ImmutableCollections$MapN$MapNIterator"), (0, .class_ 172), (0, u "java/util/ImmutableCollections$MapN$1"), (0, .class_ 174), (0, u "java/util/ImmutableCollections$Map1"), (0, .class_ 176), (0, u "java/util/ImmutableCollections$AbstractImmutableMap"), (0, .class_ 178), (0, u "java/util/ImmutableCollections$SetN$SetNIterator"), (0, .class_ 180), (0, u "java/util/ImmutableCollections$Set12"), (0, .class_ 182), (0, u "java/util/ImmutableCollections$Set12$1"), (0, .class_ 184), (0, u "java/util/ImmutableCollections$AbstractImmutableSet"), (0, .class_ 186), (0, u "java/util/ImmutableCollections$SubList"), (0, .class_ 188), (0, u "java/util/ImmutableCollections$ListItr"), (0, .class_ 190), (0, u "java/util/ImmutableCollections$AbstractImmutableList"), (0, .class_ 192), (0, u "java/util/ImmutableCollections$AbstractImmutableCollection"), (0, .class_ 194), (0, u "java/util/ImmutableCollections$Access"), (0, .class_ 196), (0, u "java/util/ImmutableCollections$Access$1")] 16

def k16m0 : Method := { name := "<init>", desc := "()V", sig := { parameters := [], returnType := none }, accessFlags := 2, code := none }
/-- java/util/ImmutableCollections -/
def k16 : Class := { plain "java/util/ImmutableCollections" (some 0) with
  accessFlags := 32
  interfaces := #[]
  cf := some (fileOf pool16 47 #[.nestMembers #[120, 169, 171, 173, 175, 111, 177, 179, 181, 183, 12, 10, 185, 187, 189, 191, 193, 195]] #[{ accessFlags := 2, nameIndex := 5, descriptorIndex := 6, attributes := #[] }] 32 2 #[] #[{ accessFlags := 26, nameIndex := 95, descriptorIndex := 96, attributes := #[] }, { accessFlags := 26, nameIndex := 99, descriptorIndex := 17, attributes := #[] }, { accessFlags := 10, nameIndex := 106, descriptorIndex := 56, attributes := #[] }, { accessFlags := 26, nameIndex := 109, descriptorIndex := 110, attributes := #[] }, { accessFlags := 24, nameIndex := 62, descriptorIndex := 63, attributes := #[] }, { accessFlags := 24, nameIndex := 72, descriptorIndex := 63, attributes := #[] }, { accessFlags := 24, nameIndex := 118, descriptorIndex := 119, attributes := #[] }, { accessFlags := 24, nameIndex := 125, descriptorIndex := 126, attributes := #[] }, { accessFlags := 24, nameIndex := 131, descriptorIndex := 132, attributes := #[] }, { accessFlags := 4120, nameIndex := 50, descriptorIndex := 17, attributes := #[] }])
  fields := #[{ name := "SALT32L", type := .long, accessFlags := 26, slot := 0, constantValue := 0 }, { name := "REVERSE", type := .boolean, accessFlags := 26, slot := 1, constantValue := 0 }, { name := "archivedObjects", type := (.array (.object "java/lang/Object")), accessFlags := 10, slot := 2, constantValue := 0 }, { name := "EMPTY", type := (.object "java/lang/Object"), accessFlags := 26, slot := 3, constantValue := 0 }, { name := "EMPTY_LIST", type := (.object "java/util/ImmutableCollections$ListN"), accessFlags := 24, slot := 4, constantValue := 0 }, { name := "EMPTY_LIST_NULLS", type := (.object "java/util/ImmutableCollections$ListN"), accessFlags := 24, slot := 5, constantValue := 0 }, { name := "EMPTY_SET", type := (.object "java/util/ImmutableCollections$SetN"), accessFlags := 24, slot := 6, constantValue := 0 }, { name := "EMPTY_MAP", type := (.object "java/util/ImmutableCollections$MapN"), accessFlags := 24, slot := 7, constantValue := 0 }, { name := "EXPAND_FACTOR", type := .int, accessFlags := 24, slot := 8, constantValue := 0 }, { name := "$assertionsDisabled", type := .boolean, accessFlags := 4120, slot := 9, constantValue := 0 }]
  methods := #[k16m0]
  instanceTypes := #[]
  staticTypes := #[.long, .boolean, (.array (.object "java/lang/Object")), (.object "java/lang/Object"), (.object "java/util/ImmutableCollections$ListN"), (.object "java/util/ImmutableCollections$ListN"), (.object "java/util/ImmutableCollections$SetN"), (.object "java/util/ImmutableCollections$MapN"), .int, .boolean]
  resolved := Array.replicate 213 none
  statics := some 0 }

def pool17 : Array CpInfo := pool [(1, .methodref 2 3), (0, .class_ 4), (0, .nameAndType 5 6), (0, u "java/lang/Object"), (0, u "<init>"), (0, u "()V"), (1, .class_ 10), (1, u "java/util/AbstractCollection"), (0, u "size"), (0, u "()I"), (64, .class_ 78), (0, u "java/util/Collection")] 81

def k17c0 : Code := { maxStack := 1, maxLocals := 1, code := jdk_22_method_1_code, exceptionTable := #[], attributes := #[] }
def k17m0 : Method := { name := "<init>", desc := "()V", sig := { parameters := [], returnType := none }, accessFlags := 4, code := some k17c0 }
def k17m1 : Method := { name := "size", desc := "()I", sig := { parameters := [], returnType := some .int }, accessFlags := 1025, code := none }
/-- java/util/AbstractCollection -/
def k17 : Class := { plain "java/util/AbstractCollection" (some 0) with
  accessFlags := 1057
  interfaces := #[13]
  cf := some (fileOf pool17 8 #[] #[{ accessFlags := 4, nameIndex := 5, descriptorIndex := 6, attributes := #[] }, { accessFlags := 1025, nameIndex := 11, descriptorIndex := 12, attributes := #[] }] 1057 2 #[77] #[])
  fields := #[]
  methods := #[k17m0, k17m1]
  instanceTypes := #[]
  staticTypes := #[]
  resolved := Array.replicate 160 none
  statics := none }

def pool18 : Array CpInfo := pool [(2, .class_ 4), (1, u "java/util/AbstractCollection"), (0, u "<init>"), (0, u "()V"), (1, .class_ 10), (1, u "java/util/ImmutableCollections"), (2, .class_ 14), (0, u "java/util/ImmutableCollections$AbstractImmutableCollection")] 41

def k18m0 : Method := { name := "<init>", desc := "()V", sig := { parameters := [], returnType := none }, accessFlags := 0, code := none }
/-- java/util/ImmutableCollections$AbstractImmutableCollection -/
def k18 : Class := { plain "java/util/ImmutableCollections$AbstractImmutableCollection" (some 17) with
  accessFlags := 1056
  interfaces := #[]
  cf := some (fileOf pool18 13 #[.nestHost 8] #[{ accessFlags := 0, nameIndex := 5, descriptorIndex := 6, attributes := #[] }] 1056 2 #[] #[])
  fields := #[]
  methods := #[k18m0]
  instanceTypes := #[]
  staticTypes := #[]
  resolved := Array.replicate 56 none
  statics := none }

def pool19 : Array CpInfo := pool [(1, .class_ 2), (0, u "java/util/RandomAccess"), (0, .class_ 4), (0, u "java/lang/Object")] 2

/-- java/util/RandomAccess -/
def k19 : Class := { plain "java/util/RandomAccess" (some 0) with
  accessFlags := 1537
  interfaces := #[]
  cf := some (fileOf pool19 1 #[] #[] 1537 3 #[] #[])
  fields := #[]
  methods := #[]
  instanceTypes := #[]
  staticTypes := #[]
  resolved := Array.replicate 7 none
  statics := none }

def pool20 : Array CpInfo := pool [(2, .class_ 4), (1, u "java/util/ImmutableCollections$AbstractImmutableCollection"), (0, u "<init>"), (0, u "()V"), (1, .class_ 10), (1, u "java/util/ImmutableCollections"), (2, .methodref 14 15), (0, .class_ 16), (0, .nameAndType 17 18), (0, u "java/util/ImmutableCollections$AbstractImmutableList"), (0, u "size"), (0, u "()I"), (42, .class_ 62), (0, u "java/util/ImmutableCollections$ListItr"), (0, .methodref 61 64), (0, .nameAndType 5 65), (0, u "(Ljava/util/List;I)V"), (11, .class_ 78), (0, u "java/util/List"), (2, u "iterator"), (0, u "()Ljava/util/Iterator;"), (41, .class_ 125), (0, u "java/util/RandomAccess")] 70

def k20m0 : Method := { name := "<init>", desc := "()V", sig := { parameters := [], returnType := none }, accessFlags := 0, code := none }
def k20c1 : Code := { maxStack := 4, maxLocals := 1, code := jdk_46_method_10_code, exceptionTable := #[], attributes := #[] }
def k20m1 : Method := { name := "iterator", desc := "()Ljava/util/Iterator;", sig := { parameters := [], returnType := some (.object "java/util/Iterator") }, accessFlags := 1, code := some k20c1 }
/-- java/util/ImmutableCollections$AbstractImmutableList -/
def k20 : Class := { plain "java/util/ImmutableCollections$AbstractImmutableList" (some 18) with
  accessFlags := 1056
  interfaces := #[15, 19]
  cf := some (fileOf pool20 14 #[.nestHost 8] #[{ accessFlags := 0, nameIndex := 5, descriptorIndex := 6, attributes := #[] }, { accessFlags := 1, nameIndex := 81, descriptorIndex := 82, attributes := #[] }] 1056 2 #[77, 124] #[])
  fields := #[]
  methods := #[k20m0, k20m1]
  instanceTypes := #[]
  staticTypes := #[]
  resolved := Array.replicate 196 none
  statics := none }

def pool21 : Array CpInfo := pool [(2, .class_ 4), (1, u "java/util/ImmutableCollections$AbstractImmutableList"), (2, .fieldref 8 9), (0, .class_ 10), (0, .nameAndType 11 12), (0, u "java/util/ImmutableCollections$ListN"), (0, u "elements"), (0, u "[Ljava/lang/Object;"), (2, u "allowNulls"), (0, u "Z"), (42, .class_ 60), (0, u "java/io/Serializable"), (16, u "size"), (0, u "()I"), (35, .class_ 115), (0, u "java/util/ImmutableCollections")] 3

def k21c0 : Code := { maxStack := 1, maxLocals := 1, code := jdk_45_method_3_code, exceptionTable := #[], attributes := #[] }
def k21m0 : Method := { name := "size", desc := "()I", sig := { parameters := [], returnType := some .int }, accessFlags := 1, code := some k21c0 }
/-- java/util/ImmutableCollections$ListN -/
def k21 : Class := { plain "java/util/ImmutableCollections$ListN" (some 20) with
  accessFlags := 48
  interfaces := #[6]
  cf := some (fileOf pool21 8 #[.nestHost 114] #[{ accessFlags := 1, nameIndex := 77, descriptorIndex := 78, attributes := #[] }] 48 2 #[59] #[{ accessFlags := 18, nameIndex := 11, descriptorIndex := 12, attributes := #[] }, { accessFlags := 18, nameIndex := 15, descriptorIndex := 16, attributes := #[] }])
  fields := #[{ name := "elements", type := (.array (.object "java/lang/Object")), accessFlags := 18, slot := 0, constantValue := 0 }, { name := "allowNulls", type := .boolean, accessFlags := 18, slot := 1, constantValue := 0 }]
  methods := #[k21m0]
  instanceTypes := #[(.array (.object "java/lang/Object")), .boolean]
  staticTypes := #[]
  resolved := Array.replicate 119 none
  statics := none }

def pool22 : Array CpInfo := pool [(16, .class_ 18), (1, u "java/util/Iterator"), (0, u "hasNext"), (0, u "()Z"), (2, u "next"), (0, u "()Ljava/lang/Object;"), (6, .class_ 32), (0, u "java/lang/Object")] 20

def k22m0 : Method := { name := "hasNext", desc := "()Z", sig := { parameters := [], returnType := some .boolean }, accessFlags := 1025, code := none }
def k22m1 : Method := { name := "next", desc := "()Ljava/lang/Object;", sig := { parameters := [], returnType := some (.object "java/lang/Object") }, accessFlags := 1025, code := none }
/-- java/util/Iterator -/
def k22 : Class := { plain "java/util/Iterator" (some 0) with
  accessFlags := 1537
  interfaces := #[]
  cf := some (fileOf pool22 16 #[] #[{ accessFlags := 1025, nameIndex := 19, descriptorIndex := 20, attributes := #[] }, { accessFlags := 1025, nameIndex := 23, descriptorIndex := 24, attributes := #[] }] 1537 31 #[] #[])
  fields := #[]
  methods := #[k22m0, k22m1]
  instanceTypes := #[]
  staticTypes := #[]
  resolved := Array.replicate 53 none
  statics := none }

def pool23 : Array CpInfo := pool [(1, .class_ 2), (0, u "java/util/ListIterator"), (0, .class_ 4), (0, u "java/lang/Object"), (0, .class_ 6), (0, u "java/util/Iterator")] 20

/-- java/util/ListIterator -/
def k23 : Class := { plain "java/util/ListIterator" (some 0) with
  accessFlags := 1537
  interfaces := #[22]
  cf := some (fileOf pool23 1 #[] #[] 1537 3 #[5] #[])
  fields := #[]
  methods := #[]
  instanceTypes := #[]
  staticTypes := #[]
  resolved := Array.replicate 27 none
  statics := none }

def pool24 : Array CpInfo := pool [(1, .methodref 2 3), (0, .class_ 4), (0, .nameAndType 5 6), (0, u "java/lang/Object"), (0, u "<init>"), (0, u "()V"), (0, .fieldref 8 9), (0, .class_ 10), (0, .nameAndType 11 12), (0, u "java/util/ImmutableCollections$ListItr"), (0, u "list"), (0, u "Ljava/util/List;"), (0, .fieldref 8 14), (0, .nameAndType 15 16), (0, u "size"), (0, u "I"), (0, .fieldref 8 18), (0, .nameAndType 19 16), (0, u "cursor"), (0, .fieldref 8 21), (0, .nameAndType 22 23), (0, u "isListIterator"), (0, u "Z"), (12, .class_ 38), (1, u "java/util/ImmutableCollections"), (2, .class_ 42), (0, u "java/util/ListIterator"), (4, u "(Ljava/util/List;I)V"), (11, u "hasNext"), (0, u "()Z")] 25

def k24c0 : Code := { maxStack := 2, maxLocals := 3, code := jdk_53_method_1_code, exceptionTable := #[], attributes := #[] }
def k24m0 : Method := { name := "<init>", desc := "(Ljava/util/List;I)V", sig := { parameters := [(.object "java/util/List"), .int], returnType := none }, accessFlags := 0, code := some k24c0 }
def k24c1 : Code := { maxStack := 2, maxLocals := 1, code := jdk_53_method_3_code, exceptionTable := #[], attributes := #[] }
def k24m1 : Method := { name := "hasNext", desc := "()Z", sig := { parameters := [], returnType := some .boolean }, accessFlags := 1, code := some k24c1 }
/-- java/util/ImmutableCollections$ListItr -/
def k24 : Class := { plain "java/util/ImmutableCollections$ListItr" (some 0) with
  accessFlags := 48
  interfaces := #[23]
  cf := some (fileOf pool24 8 #[.nestHost 36] #[{ accessFlags := 0, nameIndex := 5, descriptorIndex := 47, attributes := #[] }, { accessFlags := 1, nameIndex := 59, descriptorIndex := 60, attributes := #[] }] 48 2 #[41] #[{ accessFlags := 18, nameIndex := 11, descriptorIndex := 12, attributes := #[] }, { accessFlags := 18, nameIndex := 15, descriptorIndex := 16, attributes := #[] }, { accessFlags := 18, nameIndex := 22, descriptorIndex := 23, attributes := #[] }, { accessFlags := 2, nameIndex := 19, descriptorIndex := 16, attributes := #[] }])
  fields := #[{ name := "list", type := (.object "java/util/List"), accessFlags := 18, slot := 0, constantValue := 0 }, { name := "size", type := .int, accessFlags := 18, slot := 1, constantValue := 0 }, { name := "isListIterator", type := .boolean, accessFlags := 18, slot := 2, constantValue := 0 }, { name := "cursor", type := .int, accessFlags := 2, slot := 3, constantValue := 0 }]
  methods := #[k24m0, k24m1]
  instanceTypes := #[(.object "java/util/List"), .int, .boolean, .int]
  staticTypes := #[]
  resolved := Array.replicate 86 none
  statics := none }

def pool25 : Array CpInfo := pool [(1, .methodref 2 3), (0, .class_ 4), (0, .nameAndType 5 6), (0, u "java/util/AbstractCollection"), (0, u "<init>"), (0, u "()V"), (0, .fieldref 8 9), (0, .class_ 10), (0, .nameAndType 11 12), (0, u "java/util/AbstractList"), (0, u "modCount"), (0, u "I"), (64, .class_ 78), (0, u "java/util/AbstractList$Itr"), (3, .class_ 83), (0, u "java/util/AbstractList$ListItr"), (9, .class_ 94), (0, u "java/util/AbstractList$RandomAccessSubList"), (3, .class_ 99), (0, u "java/util/AbstractList$SubList"), (33, .class_ 134), (0, u "java/util/List"), (73, .class_ 209), (0, u "java/util/AbstractList$SubList$1"), (0, .class_ 211), (0, u "java/util/AbstractList$RandomAccessSpliterator")] 6

def k25c0 : Code := { maxStack := 2, maxLocals := 1, code := jdk_39_method_1_code, exceptionTable := #[], attributes := #[] }
def k25m0 : Method := { name := "<init>", desc := "()V", sig := { parameters := [], returnType := none }, accessFlags := 4, code := some k25c0 }
/-- java/util/AbstractList -/
def k25 : Class := { plain "java/util/AbstractList" (some 17) with
  accessFlags := 1057
  interfaces := #[15]
  cf := some (fileOf pool25 8 #[.nestMembers #[93, 98, 208, 210, 82, 77]] #[{ accessFlags := 4, nameIndex := 5, descriptorIndex := 6, attributes := #[] }] 1057 2 #[133] #[{ accessFlags := 132, nameIndex := 11, descriptorIndex := 12, attributes := #[] }])
  fields := #[{ name := "modCount", type := .int, accessFlags := 132, slot := 0, constantValue := 0 }]
  methods := #[k25m0]
  instanceTypes := #[.int]
  staticTypes := #[]
  resolved := Array.replicate 218 none
  statics := none }

def pool26 : Array CpInfo := pool [(1, .class_ 2), (0, u "java/lang/Cloneable"), (0, .class_ 4), (0, u "java/lang/Object")] 2

/-- java/lang/Cloneable -/
def k26 : Class := { plain "java/lang/Cloneable" (some 0) with
  accessFlags := 1537
  interfaces := #[]
  cf := some (fileOf pool26 1 #[] #[] 1537 3 #[] #[])
  fields := #[]
  methods := #[]
  instanceTypes := #[]
  staticTypes := #[]
  resolved := Array.replicate 7 none
  statics := none }

def pool27 : Array CpInfo := pool [(1, .methodref 2 3), (0, .class_ 4), (0, .nameAndType 5 6), (0, u "java/util/AbstractList"), (0, u "<init>"), (0, u "()V"), (0, .class_ 8), (0, u "java/lang/Object"), (0, .fieldref 10 11), (0, .class_ 12), (0, .nameAndType 13 14), (0, u "java/util/ArrayList"), (0, u "elementData"), (0, u "[Ljava/lang/Object;"), (2, u "EMPTY_ELEMENTDATA"), (21, .fieldref 10 40), (0, .nameAndType 41 14), (0, u "DEFAULTCAPACITY_EMPTY_ELEMENTDATA"), (5, u "()[Ljava/lang/Object;"), (0, .fieldref 10 49), (0, .nameAndType 50 51), (0, u "size"), (0, u "I"), (11, .fieldref 10 64), (0, .nameAndType 65 51), (0, u "modCount"), (3, .methodref 10 70), (0, .nameAndType 71 72), (0, u "grow"), (0, u "(I)[Ljava/lang/Object;"), (6, .methodref 80 81), (0, .class_ 82), (0, .nameAndType 83 84), (0, u "java/lang/Math"), (0, u "max"), (0, u "(II)I"), (11, u "(Ljava/lang/Object;)Z"), (32, .methodref 10 130), (0, .nameAndType 71 47), (0, .methodref 10 132), (0, .nameAndType 133 134), (0, u "add"), (0, u "(Ljava/lang/Object;[Ljava/lang/Object;I)V"), (13, .class_ 149), (0, u "java/util/List"), (16, u "iterator"), (0, u "()Ljava/util/Iterator;"), (94, .class_ 263), (0, u "java/util/ArrayList$ListItr"), (3, .class_ 268), (0, u "java/util/ArrayList$Itr"), (0, .methodref 267 270), (0, .nameAndType 5 271), (0, u "(Ljava/util/ArrayList;)V"), (4, .class_ 277), (0, u "java/util/ArrayList$SubList"), (12, .class_ 291), (0, u "java/util/ArrayList$ArrayListSpliterator"), (37, .class_ 330), (0, u "java/util/RandomAccess"), (0, .class_ 332), (0, u "java/lang/Cloneable"), (0, .class_ 334), (0, u "java/io/Serializable"), (0, u "serialVersionUID"), (0, u "J"), (3, u "DEFAULT_CAPACITY"), (159, .class_ 501), (0, u "java/util/ArrayList$SubList$2"), (0, .class_ 503), (0, u "java/util/ArrayList$SubList$1")] 5

def k27c0 : Code := { maxStack := 2, maxLocals := 1, code := jdk_38_method_2_code, exceptionTable := #[], attributes := #[] }
def k27m0 : Method := { name := "<init>", desc := "()V", sig := { parameters := [], returnType := none }, accessFlags := 1, code := some k27c0 }
def k27c1 : Code := { maxStack := 4, maxLocals := 4, code := jdk_38_method_6_code, exceptionTable := #[], attributes := #[] }
def k27m1 : Method := { name := "grow", desc := "(I)[Ljava/lang/Object;", sig := { parameters := [.int], returnType := some (.array (.object "java/lang/Object")) }, accessFlags := 2, code := some k27c1 }
def k27c2 : Code := { maxStack := 3, maxLocals := 1, code := jdk_38_method_7_code, exceptionTable := #[], attributes := #[] }
def k27m2 : Method := { name := "grow", desc := "()[Ljava/lang/Object;", sig := { parameters := [], returnType := some (.array (.object "java/lang/Object")) }, accessFlags := 2, code := some k27c2 }
def k27c3 : Code := { maxStack := 3, maxLocals := 4, code := jdk_38_method_24_code, exceptionTable := #[], attributes := #[] }
def k27m3 : Method := { name := "add", desc := "(Ljava/lang/Object;[Ljava/lang/Object;I)V", sig := { parameters := [(.object "java/lang/Object"), (.array (.object "java/lang/Object")), .int], returnType := none }, accessFlags := 2, code := some k27c3 }
def k27c4 : Code := { maxStack := 4, maxLocals := 2, code := jdk_38_method_25_code, exceptionTable := #[], attributes := #[] }
def k27m4 : Method := { name := "add", desc := "(Ljava/lang/Object;)Z", sig := { parameters := [(.object "java/lang/Object")], returnType := some .boolean }, accessFlags := 1, code := some k27c4 }
def k27c5 : Code := { maxStack := 3, maxLocals := 1, code := jdk_38_method_55_code, exceptionTable := #[], attributes := #[] }
def k27m5 : Method := { name := "iterator", desc := "()Ljava/util/Iterator;", sig := { parameters := [], returnType := some (.object "java/util/Iterator") }, accessFlags := 1, code := some k27c5 }
/-- java/util/ArrayList -/
def k27 : Class := { plain "java/util/ArrayList" (some 25) with
  accessFlags := 33
  interfaces := #[15, 19, 26, 6]
  cf := some (fileOf pool27 10 #[.nestMembers #[290, 276, 500, 502, 262, 267]] #[{ accessFlags := 1, nameIndex := 5, descriptorIndex := 6, attributes := #[] }, { accessFlags := 2, nameIndex := 71, descriptorIndex := 72, attributes := #[] }, { accessFlags := 2, nameIndex := 71, descriptorIndex := 47, attributes := #[] }, { accessFlags := 2, nameIndex := 133, descriptorIndex := 134, attributes := #[] }, { accessFlags := 1, nameIndex := 133, descriptorIndex := 96, attributes := #[] }, { accessFlags := 1, nameIndex := 166, descriptorIndex := 167, attributes := #[] }] 33 2 #[148, 329, 331, 333] #[{ accessFlags := 26, nameIndex := 335, descriptorIndex := 336, attributes := #[] }, { accessFlags := 26, nameIndex := 340, descriptorIndex := 51, attributes := #[] }, { accessFlags := 26, nameIndex := 17, descriptorIndex := 14, attributes := #[] }, { accessFlags := 26, nameIndex := 41, descriptorIndex := 14, attributes := #[] }, { accessFlags := 128, nameIndex := 13, descriptorIndex := 14, attributes := #[] }, { accessFlags := 2, nameIndex := 50, descriptorIndex := 51, attributes := #[] }])
  fields := #[{ name := "serialVersionUID", type := .long, accessFlags := 26, slot := 0, constantValue := 0 }, { name := "DEFAULT_CAPACITY", type := .int, accessFlags := 26, slot := 1, constantValue := 0 }, { name := "EMPTY_ELEMENTDATA", type := (.array (.object "java/lang/Object")), accessFlags := 26, slot := 2, constantValue := 0 }, { name := "DEFAULTCAPACITY_EMPTY_ELEMENTDATA", type := (.array (.object "java/lang/Object")), accessFlags := 26, slot := 3, constantValue := 0 }, { name := "elementData", type := (.array (.object "java/lang/Object")), accessFlags := 128, slot := 1, constantValue := 0 }, { name := "size", type := .int, accessFlags := 2, slot := 2, constantValue := 0 }]
  methods := #[k27m0, k27m1, k27m2, k27m3, k27m4, k27m5]
  instanceTypes := #[.int, (.array (.object "java/lang/Object")), .int]
  staticTypes := #[.long, .int, (.array (.object "java/lang/Object")), (.array (.object "java/lang/Object"))]
  resolved := Array.replicate 509 none
  statics := some 1 }

def pool28 : Array CpInfo := pool [(1, .class_ 2), (0, u "com/example/abstract_to_verify/abstracttoverify/model/Term$Visitor"), (0, .class_ 4), (0, u "java/lang/Object"), (20, .class_ 26), (0, u "com/example/abstract_to_verify/abstracttoverify/model/Term")] 7

/-- com/example/abstract_to_verify/abstracttoverify/model/Term$Visitor -/
def k28 : Class := { plain "com/example/abstract_to_verify/abstracttoverify/model/Term$Visitor" (some 0) with
  accessFlags := 1537
  interfaces := #[]
  cf := some (fileOf pool28 1 #[.nestHost 25] #[] 1537 3 #[] #[])
  fields := #[]
  methods := #[]
  instanceTypes := #[]
  staticTypes := #[]
  resolved := Array.replicate 34 none
  statics := none }

def pool29 : Array CpInfo := pool [(1, .class_ 2), (0, u "com/example/abstract_to_verify/abstracttoverify/model/Formula$Visitor"), (0, .class_ 4), (0, u "java/lang/Object"), (26, .class_ 32), (0, u "com/example/abstract_to_verify/abstracttoverify/model/Formula")] 11

/-- com/example/abstract_to_verify/abstracttoverify/model/Formula$Visitor -/
def k29 : Class := { plain "com/example/abstract_to_verify/abstracttoverify/model/Formula$Visitor" (some 0) with
  accessFlags := 1537
  interfaces := #[]
  cf := some (fileOf pool29 1 #[.nestHost 31] #[] 1537 3 #[] #[])
  fields := #[]
  methods := #[]
  instanceTypes := #[]
  staticTypes := #[]
  resolved := Array.replicate 44 none
  statics := none }

def pool30 : Array CpInfo := pool [(1, .methodref 2 3), (0, .class_ 4), (0, .nameAndType 5 6), (0, u "java/lang/Object"), (0, u "<init>"), (0, u "()V"), (0, .class_ 8), (0, u "com/example/abstract_to_verify/abstracttoverify/model/Term"), (0, .fieldref 10 11), (0, .class_ 12), (0, .nameAndType 13 14), (0, u "com/example/abstract_to_verify/abstracttoverify/model/Substitution"), (0, u "replacements"), (0, u "[Lcom/example/abstract_to_verify/abstracttoverify/model/Term;"), (0, .interfaceMethodref 16 17), (0, .class_ 18), (0, .nameAndType 19 20), (0, u "java/util/List"), (0, u "iterator"), (0, u "()Ljava/util/Iterator;"), (0, .interfaceMethodref 22 23), (0, .class_ 24), (0, .nameAndType 25 26), (0, u "java/util/Iterator"), (0, u "hasNext"), (0, u "()Z"), (0, .interfaceMethodref 22 28), (0, .nameAndType 29 30), (0, u "next"), (0, u "()Ljava/lang/Object;"), (0, .class_ 32), (0, u "com/example/abstract_to_verify/abstracttoverify/model/Assignment"), (0, .methodref 31 34), (0, .nameAndType 35 36), (0, u "target"), (0, u "()Lcom/example/abstract_to_verify/abstracttoverify/model/Variable;"), (0, .methodref 38 39), (0, .class_ 40), (0, .nameAndType 41 42), (0, u "com/example/abstract_to_verify/abstracttoverify/model/Variable"), (0, u "index"), (0, u "()I"), (0, .methodref 31 44), (0, .nameAndType 45 46), (0, u "value"), (0, u "()Lcom/example/abstract_to_verify/abstracttoverify/model/Term;"), (89, u "variable"), (0, u "(Lcom/example/abstract_to_verify/abstracttoverify/model/Variable;)Lcom/example/abstract_to_verify/abstracttoverify/model/Term;"), (30, .class_ 169), (0, u "com/example/abstract_to_verify/abstracttoverify/model/Term$Visitor"), (0, .class_ 171), (0, u "com/example/abstract_to_verify/abstracttoverify/model/Formula$Visitor"), (0, u "(ILjava/util/List;)V")] 31

def k30c0 : Code := { maxStack := 3, maxLocals := 5, code := prog_108_method_1_code, exceptionTable := #[], attributes := #[] }
def k30m0 : Method := { name := "<init>", desc := "(ILjava/util/List;)V", sig := { parameters := [.int, (.object "java/util/List")], returnType := none }, accessFlags := 0, code := some k30c0 }
def k30c1 : Code := { maxStack := 2, maxLocals := 3, code := prog_108_method_3_code, exceptionTable := #[], attributes := #[] }
def k30m1 : Method := { name := "variable", desc := "(Lcom/example/abstract_to_verify/abstracttoverify/model/Variable;)Lcom/example/abstract_to_verify/abstracttoverify/model/Term;", sig := { parameters := [(.object "com/example/abstract_to_verify/abstracttoverify/model/Variable")], returnType := some (.object "com/example/abstract_to_verify/abstracttoverify/model/Term") }, accessFlags := 1, code := some k30c1 }
/-- com/example/abstract_to_verify/abstracttoverify/model/Substitution -/
def k30 : Class := { plain "com/example/abstract_to_verify/abstracttoverify/model/Substitution" (some 0) with
  accessFlags := 48
  interfaces := #[28, 29]
  cf := some (fileOf pool30 10 #[] #[{ accessFlags := 0, nameIndex := 5, descriptorIndex := 172, attributes := #[] }, { accessFlags := 1, nameIndex := 136, descriptorIndex := 137, attributes := #[] }] 48 2 #[168, 170] #[{ accessFlags := 18, nameIndex := 13, descriptorIndex := 14, attributes := #[] }])
  fields := #[{ name := "replacements", type := (.array (.object "com/example/abstract_to_verify/abstracttoverify/model/Term")), accessFlags := 18, slot := 0, constantValue := 0 }]
  methods := #[k30m0, k30m1]
  instanceTypes := #[(.array (.object "com/example/abstract_to_verify/abstracttoverify/model/Term"))]
  staticTypes := #[]
  resolved := Array.replicate 204 none
  statics := none }

def pool31 : Array CpInfo := pool [(1, .fieldref 2 3), (0, .class_ 4), (0, .nameAndType 5 6), (0, u "java/util/ArrayList$Itr"), (0, u "this$0"), (0, u "Ljava/util/ArrayList;"), (0, .methodref 8 9), (0, .class_ 10), (0, .nameAndType 11 12), (0, u "java/lang/Object"), (0, u "<init>"), (0, u "()V"), (0, .fieldref 2 14), (0, .nameAndType 15 16), (0, u "lastRet"), (0, u "I"), (0, .fieldref 18 19), (0, .class_ 20), (0, .nameAndType 21 16), (0, u "java/util/ArrayList"), (0, u "modCount"), (0, .fieldref 2 23), (0, .nameAndType 24 16), (0, u "expectedModCount"), (0, .fieldref 2 26), (0, .nameAndType 27 16), (0, u "cursor"), (0, .fieldref 18 29), (0, .nameAndType 30 16), (0, u "size"), (0, .methodref 2 32), (0, .nameAndType 33 12), (0, u "checkForComodification"), (3, .fieldref 18 38), (0, .nameAndType 39 40), (0, u "elementData"), (0, u "[Ljava/lang/Object;"), (28, .class_ 70), (0, u "java/util/Iterator"), (0, u "(Ljava/util/ArrayList;)V"), (8, u "hasNext"), (0, u "()Z"), (1, u "next"), (0, u "()Ljava/lang/Object;")] 19

def k31c0 : Code := { maxStack := 2, maxLocals := 2, code := jdk_49_method_1_code, exceptionTable := #[], attributes := #[] }
def k31m0 : Method := { name := "<init>", desc := "(Ljava/util/ArrayList;)V", sig := { parameters := [(.object "java/util/ArrayList")], returnType := none }, accessFlags := 0, code := some k31c0 }
def k31c1 : Code := { maxStack := 2, maxLocals := 1, code := jdk_49_method_2_code, exceptionTable := #[], attributes := #[] }
def k31m1 : Method := { name := "hasNext", desc := "()Z", sig := { parameters := [], returnType := some .boolean }, accessFlags := 1, code := some k31c1 }
def k31c2 : Code := { maxStack := 4, maxLocals := 3, code := jdk_49_method_3_code, exceptionTable := #[], attributes := #[] }
def k31m2 : Method := { name := "next", desc := "()Ljava/lang/Object;", sig := { parameters := [], returnType := some (.object "java/lang/Object") }, accessFlags := 1, code := some k31c2 }
def k31c3 : Code := { maxStack := 2, maxLocals := 1, code := jdk_49_method_6_code, exceptionTable := #[], attributes := #[] }
def k31m3 : Method := { name := "checkForComodification", desc := "()V", sig := { parameters := [], returnType := none }, accessFlags := 16, code := some k31c3 }
/-- java/util/ArrayList$Itr -/
def k31 : Class := { plain "java/util/ArrayList$Itr" (some 0) with
  accessFlags := 32
  interfaces := #[22]
  cf := some (fileOf pool31 2 #[.nestHost 18] #[{ accessFlags := 0, nameIndex := 11, descriptorIndex := 71, attributes := #[] }, { accessFlags := 1, nameIndex := 80, descriptorIndex := 81, attributes := #[] }, { accessFlags := 1, nameIndex := 83, descriptorIndex := 84, attributes := #[] }, { accessFlags := 16, nameIndex := 33, descriptorIndex := 12, attributes := #[] }] 32 8 #[69] #[{ accessFlags := 0, nameIndex := 27, descriptorIndex := 16, attributes := #[] }, { accessFlags := 0, nameIndex := 15, descriptorIndex := 16, attributes := #[] }, { accessFlags := 0, nameIndex := 24, descriptorIndex := 16, attributes := #[] }, { accessFlags := 4112, nameIndex := 5, descriptorIndex := 6, attributes := #[] }])
  fields := #[{ name := "cursor", type := .int, accessFlags := 0, slot := 0, constantValue := 0 }, { name := "lastRet", type := .int, accessFlags := 0, slot := 1, constantValue := 0 }, { name := "expectedModCount", type := .int, accessFlags := 0, slot := 2, constantValue := 0 }, { name := "this$0", type := (.object "java/util/ArrayList"), accessFlags := 4112, slot := 3, constantValue := 0 }]
  methods := #[k31m0, k31m1, k31m2, k31m3]
  instanceTypes := #[.int, .int, .int, (.object "java/util/ArrayList")]
  staticTypes := #[]
  resolved := Array.replicate 104 none
  statics := none }

def pool32 : Array CpInfo := pool [(1, .methodref 2 3), (0, .class_ 4), (0, .nameAndType 5 6), (0, u "java/lang/Object"), (0, u "<init>"), (0, u "()V"), (0, .fieldref 8 9), (0, .class_ 10), (0, .nameAndType 11 12), (0, u "com/example/abstract_to_verify/abstracttoverify/model/Assignment"), (0, u "target"), (0, u "Lcom/example/abstract_to_verify/abstracttoverify/model/Variable;"), (0, .fieldref 8 14), (0, .nameAndType 15 16), (0, u "value"), (0, u "Lcom/example/abstract_to_verify/abstracttoverify/model/Term;"), (0, u "(Lcom/example/abstract_to_verify/abstracttoverify/model/Variable;Lcom/example/abstract_to_verify/abstracttoverify/model/Term;)V"), (2, u "()Lcom/example/abstract_to_verify/abstracttoverify/model/Variable;"), (0, u "()Lcom/example/abstract_to_verify/abstracttoverify/model/Term;")] 2

def k32c0 : Code := { maxStack := 2, maxLocals := 3, code := prog_67_method_1_code, exceptionTable := #[], attributes := #[] }
def k32m0 : Method := { name := "<init>", desc := "(Lcom/example/abstract_to_verify/abstracttoverify/model/Variable;Lcom/example/abstract_to_verify/abstracttoverify/model/Term;)V", sig := { parameters := [(.object "com/example/abstract_to_verify/abstracttoverify/model/Variable"), (.object "com/example/abstract_to_verify/abstracttoverify/model/Term")], returnType := none }, accessFlags := 0, code := some k32c0 }
def k32c1 : Code := { maxStack := 1, maxLocals := 1, code := prog_67_method_2_code, exceptionTable := #[], attributes := #[] }
def k32m1 : Method := { name := "target", desc := "()Lcom/example/abstract_to_verify/abstracttoverify/model/Variable;", sig := { parameters := [], returnType := some (.object "com/example/abstract_to_verify/abstracttoverify/model/Variable") }, accessFlags := 1, code := some k32c1 }
def k32c2 : Code := { maxStack := 1, maxLocals := 1, code := prog_67_method_3_code, exceptionTable := #[], attributes := #[] }
def k32m2 : Method := { name := "value", desc := "()Lcom/example/abstract_to_verify/abstracttoverify/model/Term;", sig := { parameters := [], returnType := some (.object "com/example/abstract_to_verify/abstracttoverify/model/Term") }, accessFlags := 1, code := some k32c2 }
/-- com/example/abstract_to_verify/abstracttoverify/model/Assignment -/
def k32 : Class := { plain "com/example/abstract_to_verify/abstracttoverify/model/Assignment" (some 0) with
  accessFlags := 49
  interfaces := #[]
  cf := some (fileOf pool32 8 #[] #[{ accessFlags := 0, nameIndex := 5, descriptorIndex := 17, attributes := #[] }, { accessFlags := 1, nameIndex := 11, descriptorIndex := 20, attributes := #[] }, { accessFlags := 1, nameIndex := 15, descriptorIndex := 21, attributes := #[] }] 49 2 #[] #[{ accessFlags := 18, nameIndex := 11, descriptorIndex := 12, attributes := #[] }, { accessFlags := 18, nameIndex := 15, descriptorIndex := 16, attributes := #[] }])
  fields := #[{ name := "target", type := (.object "com/example/abstract_to_verify/abstracttoverify/model/Variable"), accessFlags := 18, slot := 0, constantValue := 0 }, { name := "value", type := (.object "com/example/abstract_to_verify/abstracttoverify/model/Term"), accessFlags := 18, slot := 1, constantValue := 0 }]
  methods := #[k32m0, k32m1, k32m2]
  instanceTypes := #[(.object "com/example/abstract_to_verify/abstracttoverify/model/Variable"), (.object "com/example/abstract_to_verify/abstracttoverify/model/Term")]
  staticTypes := #[]
  resolved := Array.replicate 24 none
  statics := none }

def pool33 : Array CpInfo := pool [(1, .class_ 2), (0, u "java/lang/Math"), (1, .class_ 6), (1, u "java/lang/Object"), (0, u "<init>"), (0, u "()V"), (89, .class_ 100), (1, u "java/lang/Math$RandomNumberGeneratorHolder"), (71, u "negativeZeroFloatBits"), (0, u "J"), (2, u "negativeZeroDoubleBits"), (21, u "max"), (46, u "$assertionsDisabled"), (0, u "Z"), (88, u "(II)I"), (2, u "twoToTheDoubleScaleDown"), (0, u "D"), (4, u "twoToTheDoubleScaleUp"), (9, u "E"), (3, u "PI"), (2, u "TAU"), (2, u "DEGREES_TO_RADIANS"), (0, u "RADIANS_TO_DEGREES")] 94

def k33m0 : Method := { name := "<init>", desc := "()V", sig := { parameters := [], returnType := none }, accessFlags := 2, code := none }
def k33c1 : Code := { maxStack := 2, maxLocals := 2, code := jdk_29_method_65_code, exceptionTable := #[], attributes := #[] }
def k33m1 : Method := { name := "max", desc := "(II)I", sig := { parameters := [.int, .int], returnType := some .int }, accessFlags := 9, code := some k33c1 }
/-- java/lang/Math -/
def k33 : Class := { plain "java/lang/Math" (some 0) with
  accessFlags := 49
  interfaces := #[]
  cf := some (fileOf pool33 1 #[.nestMembers #[98]] #[{ accessFlags := 2, nameIndex := 7, descriptorIndex := 8, attributes := #[] }, { accessFlags := 9, nameIndex := 198, descriptorIndex := 335, attributes := #[] }] 49 4 #[] #[{ accessFlags := 25, nameIndex := 354, descriptorIndex := 339, attributes := #[] }, { accessFlags := 25, nameIndex := 358, descriptorIndex := 339, attributes := #[] }, { accessFlags := 25, nameIndex := 361, descriptorIndex := 339, attributes := #[] }, { accessFlags := 26, nameIndex := 364, descriptorIndex := 339, attributes := #[] }, { accessFlags := 26, nameIndex := 365, descriptorIndex := 339, attributes := #[] }, { accessFlags := 26, nameIndex := 172, descriptorIndex := 173, attributes := #[] }, { accessFlags := 26, nameIndex := 176, descriptorIndex := 173, attributes := #[] }, { accessFlags := 8, nameIndex := 344, descriptorIndex := 339, attributes := #[] }, { accessFlags := 8, nameIndex := 338, descriptorIndex := 339, attributes := #[] }, { accessFlags := 4120, nameIndex := 245, descriptorIndex := 246, attributes := #[] }])
  fields := #[{ name := "E", type := .double, accessFlags := 25, slot := 0, constantValue := 0 }, { name := "PI", type := .double, accessFlags := 25, slot := 1, constantValue := 0 }, { name := "TAU", type := .double, accessFlags := 25, slot := 2, constantValue := 0 }, { name := "DEGREES_TO_RADIANS", type := .double, accessFlags := 26, slot := 3, constantValue := 0 }, { name := "RADIANS_TO_DEGREES", type := .double, accessFlags := 26, slot := 4, constantValue := 0 }, { name := "negativeZeroFloatBits", type := .long, accessFlags := 26, slot := 5, constantValue := 0 }, { name := "negativeZeroDoubleBits", type := .long, accessFlags := 26, slot := 6, constantValue := 0 }, { name := "twoToTheDoubleScaleUp", type := .double, accessFlags := 8, slot := 7, constantValue := 0 }, { name := "twoToTheDoubleScaleDown", type := .double, accessFlags := 8, slot := 8, constantValue := 0 }, { name := "$assertionsDisabled", type := .boolean, accessFlags := 4120, slot := 9, constantValue := 0 }]
  methods := #[k33m0, k33m1]
  instanceTypes := #[]
  staticTypes := #[.double, .double, .double, .double, .double, .long, .long, .double, .double, .boolean]
  resolved := Array.replicate 460 none
  statics := none }

/-- the primitive byte -/
def k34 : Class := { plain "byte" none with kind := .primitive 'B', accessFlags := 0x411 }
/-- [B -/
def k35 : Class := { plain "[B" (some 0) with kind := .array 34 .byte, interfaces := #[26, 6], accessFlags := 1041 }

/-- the primitive int -/
def k36 : Class := { plain "int" none with kind := .primitive 'I', accessFlags := 0x411 }
/-- [I -/
def k37 : Class := { plain "[I" (some 0) with kind := .array 36 .int, interfaces := #[26, 6], accessFlags := 1041 }

/-- [Lcom/example/abstract_to_verify/abstracttoverify/model/Term; -/
def k38 : Class := { plain "[Lcom/example/abstract_to_verify/abstracttoverify/model/Term;" (some 0) with kind := .array 3 (.object "com/example/abstract_to_verify/abstracttoverify/model/Term"), interfaces := #[26, 6], accessFlags := 1041 }

/-- [Lcom/example/abstract_to_verify/abstracttoverify/model/Variable; -/
def k39 : Class := { plain "[Lcom/example/abstract_to_verify/abstracttoverify/model/Variable;" (some 0) with kind := .array 5 (.object "com/example/abstract_to_verify/abstracttoverify/model/Variable"), interfaces := #[26, 6], accessFlags := 1041 }

/-- [Ljava/lang/Object; -/
def k40 : Class := { plain "[Ljava/lang/Object;" (some 0) with kind := .array 0 (.object "java/lang/Object"), interfaces := #[26, 6], accessFlags := 1041 }

def heap : Heap := #[{ cls := 16, slots := #[.long 0, .int 0, .null, .null, .ref 5, .null, .null, .null, .int 0, .int 0], vm := .statics 16 },
  { cls := 27, slots := #[.long 0, .int 0, .ref 3, .ref 4], vm := .statics 27 },
  { cls := 40, slots := #[], vm := .none },
  { cls := 40, slots := #[], vm := .none },
  { cls := 40, slots := #[], vm := .none },
  { cls := 21, slots := #[.ref 2, .int 0], vm := .none }]
def classes : Array Class := #[k0, k1, k2, k3, k4, k5, k6, k7, k8, k9, k10, k11, k12, k13, k14, k15, k16, k17, k18, k19, k20, k21, k22, k23, k24, k25, k26, k27, k28, k29, k30, k31, k32, k33, k34, k35, k36, k37, k38, k39, k40]
def interned : List (Array UInt16 × Addr) := []
def slotsUsed : Nat := 16
def theMethod : MethodId := ⟨1, 2⟩
def args0 : Array Value := #[.int 5, .int 5, .int 5, .int 5, .int 5, .int 5]
def aboutOver (below : List Frame) : State where
  vm := { classes := classes, interned := interned.toArray }
  heap := heap
  slotsUsed := slotsUsed
  threads := #[{ frames := .invoking theMethod args0 :: below }]
def below0 : List Frame := [.native { method := ⟨0, 0⟩, args := #[] }]
def about1 : State := aboutOver below0
def p0 : Program := .bare "" "" ""
def e0 : Env := launch0.env 0 0 0
theorem w_frames : about1.frames = Frame.invoking theMethod args0 :: below0 := rfl
set_option maxRecDepth 65536 in
theorem w_args : argsFit about1.vm theMethod args0 = true := by decide +kernel
set_option maxRecDepth 65536 in
theorem w_heap : heapFits about1 = true := by decide +kernel
set_option maxRecDepth 65536 in
theorem w_runnable : about1.curStatus? = some .runnable := by decide +kernel
set_option maxRecDepth 65536 in
theorem w_alone : about1.alone = true := by decide +kernel
set_option maxRecDepth 65536 in
theorem w_named : about1.methodNamed? x = some theMethod := by decide +kernel
set_option maxRecDepth 65536 in
theorem w_hears : about1.hears theMethod below0 = true := by decide +kernel
set_option maxRecDepth 65536 in
theorem w_ripe : about1.ripe theMethod args0 below0 = true := by decide +kernel
theorem w_running : about1.status = .running := rfl
set_option maxRecDepth 65536 in
theorem w_room : about1.hasRoom e0.platform room_1 = true :=
  launch0.hasRoom_least _ room_1 (by decide +kernel) (by decide +kernel) (by decide +kernel) (by decide +kernel) (by decide +kernel) (by decide +kernel)
theorem allAtoms_all (ts : List Jvm.Cond) (a : Array Jvm.Value) (st : Jvm.State) : (allAtoms ts).before a st = ts.all (fun c => c.before a st) := by
  induction ts with
  | nil => rfl
  | cons c t ih =>
    show (Jvm.Cond.and c (allAtoms t)).before a st = _
    rw [Jvm.Cond.before_and, ih, List.all_cons]
def words1 : List Jvm.Cond := Jvm.Cond.code x code maxLocals ret :: tables_1
/-- a 'code' word, met by the world's own term for the bytes: nothing is compared byte by byte -/
theorem code_word {y : MethodName} {bytes : ByteArray} {mx : Nat} {rt : Option FieldType} {a : Array Value} {s : State} {m : MethodId} {meth : Method} {c : Code} (h1 : s.methodNamed? y = some m) (h2 : s.vm.method? m = some meth) (h3 : meth.code = some c) (h4 : c.code = bytes)
    (h5 : (c.maxLocals == mx && c.exceptionTable.isEmpty && decide (c.maxStack ≤ mostOperands) && decide (meth.sig.returnType = rt) && !meth.locks && decide (parseMethodDescriptor y.desc = some meth.sig)) = true) : (Jvm.Cond.code y bytes mx rt).before a s = true := by
  simp only [Bool.and_eq_true, beq_iff_eq, Bool.not_eq_true', decide_eq_true_eq] at h5
  obtain ⟨⟨⟨⟨⟨g1, g2⟩, g3⟩, g4⟩, g5⟩, g6⟩ := h5
  simp [Cond.before, Cond.holds, Cond.value, h1, h2, h3, h4, g1, g2, g3, g4, g5, g6]
def isCode : Jvm.Cond → Bool
  | .code _ _ _ _ => true
  | _ => false
theorem all_split {L : List Jvm.Cond} {P : Jvm.Cond → Bool} (h1 : L.all (fun c => isCode c || P c) = true) (h2 : ∀ c ∈ L.filter isCode, P c = true) : L.all P = true := by
  refine List.all_eq_true.mpr fun c hc => ?_
  have h := List.all_eq_true.mp h1 c hc
  rcases Bool.eq_false_or_eq_true (isCode c) with hi | hi
  · exact h2 c (List.mem_filter.mpr ⟨hc, hi⟩)
  · simpa [hi] using h
set_option maxRecDepth 65536 in
theorem w_c0 : (Jvm.Cond.code x code maxLocals ret).before args0 about1 = true := code_word (m := ⟨1, 2⟩) (meth := k1m2) (c := k1c2) (by decide +kernel) rfl rfl rfl (by decide +kernel)
set_option maxRecDepth 65536 in
theorem w_c1 : (Jvm.Cond.code ({ cls := "com/example/abstract_to_verify/abstracttoverify/model/Variable", name := "<init>", desc := "(Ljava/lang/String;ZI)V" } : Jvm.MethodName) prog_117_method_1_code (4 : Nat) (Option.none : Option Jvm.ClassFile.FieldType)).before args0 about1 = true := code_word (m := ⟨5, 0⟩) (meth := k5m0) (c := k5c0) (by decide +kernel) rfl rfl rfl (by decide +kernel)
set_option maxRecDepth 65536 in
theorem w_c2 : (Jvm.Cond.code ({ cls := "java/util/List", name := "of", desc := "()Ljava/util/List;" } : Jvm.MethodName) jdk_40_method_36_code (0 : Nat) (Option.some (Jvm.ClassFile.FieldType.object "java/util/List"))).before args0 about1 = true := code_word (m := ⟨15, 2⟩) (meth := k15m2) (c := k15c2) (by decide +kernel) rfl rfl rfl (by decide +kernel)
set_option maxRecDepth 65536 in
theorem w_c3 : (Jvm.Cond.code ({ cls := "com/example/abstract_to_verify/abstracttoverify/model/Term", name := "<init>", desc := "(Ljava/util/List;)V" } : Jvm.MethodName) prog_110_method_1_code (2 : Nat) (Option.none : Option Jvm.ClassFile.FieldType)).before args0 about1 = true := code_word (m := ⟨3, 0⟩) (meth := k3m0) (c := k3c0) (by decide +kernel) rfl rfl rfl (by decide +kernel)
set_option maxRecDepth 65536 in
theorem w_c4 : (Jvm.Cond.code ({ cls := "com/example/abstract_to_verify/abstracttoverify/model/Expression", name := "<init>", desc := "(Ljava/util/List;)V" } : Jvm.MethodName) prog_83_method_1_code (5 : Nat) (Option.none : Option Jvm.ClassFile.FieldType)).before args0 about1 = true := code_word (m := ⟨2, 0⟩) (meth := k2m0) (c := k2c0) (by decide +kernel) rfl rfl rfl (by decide +kernel)
set_option maxRecDepth 65536 in
theorem w_c5 : (Jvm.Cond.code ({ cls := "java/lang/Object", name := "<init>", desc := "()V" } : Jvm.MethodName) object_method_1_code (1 : Nat) (Option.none : Option Jvm.ClassFile.FieldType)).before args0 about1 = true := code_word (m := ⟨0, 0⟩) (meth := k0m0) (c := k0c0) (by decide +kernel) rfl rfl rfl (by decide +kernel)
set_option maxRecDepth 65536 in
theorem w_c6 : (Jvm.Cond.code ({ cls := "java/util/ImmutableCollections$AbstractImmutableList", name := "iterator", desc := "()Ljava/util/Iterator;" } : Jvm.MethodName) jdk_46_method_10_code (1 : Nat) (Option.some (Jvm.ClassFile.FieldType.object "java/util/Iterator"))).before args0 about1 = true := code_word (m := ⟨20, 1⟩) (meth := k20m1) (c := k20c1) (by decide +kernel) rfl rfl rfl (by decide +kernel)
set_option maxRecDepth 65536 in
theorem w_c7 : (Jvm.Cond.code ({ cls := "java/util/ImmutableCollections$ListN", name := "size", desc := "()I" } : Jvm.MethodName) jdk_45_method_3_code (1 : Nat) (Option.some Jvm.ClassFile.FieldType.int)).before args0 about1 = true := code_word (m := ⟨21, 0⟩) (meth := k21m0) (c := k21c0) (by decide +kernel) rfl rfl rfl (by decide +kernel)
set_option maxRecDepth 65536 in
theorem w_c8 : (Jvm.Cond.code ({ cls := "java/util/ImmutableCollections$ListItr", name := "<init>", desc := "(Ljava/util/List;I)V" } : Jvm.MethodName) jdk_53_method_1_code (3 : Nat) (Option.none : Option Jvm.ClassFile.FieldType)).before args0 about1 = true := code_word (m := ⟨24, 0⟩) (meth := k24m0) (c := k24c0) (by decide +kernel) rfl rfl rfl (by decide +kernel)
set_option maxRecDepth 65536 in
theorem w_c9 : (Jvm.Cond.code ({ cls := "java/util/ImmutableCollections$ListItr", name := "hasNext", desc := "()Z" } : Jvm.MethodName) jdk_53_method_3_code (1 : Nat) (Option.some Jvm.ClassFile.FieldType.boolean)).before args0 about1 = true := code_word (m := ⟨24, 1⟩) (meth := k24m1) (c := k24c1) (by decide +kernel) rfl rfl rfl (by decide +kernel)
set_option maxRecDepth 65536 in
theorem w_c10 : (Jvm.Cond.code ({ cls := "java/util/ArrayList", name := "<init>", desc := "()V" } : Jvm.MethodName) jdk_38_method_2_code (1 : Nat) (Option.none : Option Jvm.ClassFile.FieldType)).before args0 about1 = true := code_word (m := ⟨27, 0⟩) (meth := k27m0) (c := k27c0) (by decide +kernel) rfl rfl rfl (by decide +kernel)
set_option maxRecDepth 65536 in
theorem w_c11 : (Jvm.Cond.code ({ cls := "java/util/AbstractList", name := "<init>", desc := "()V" } : Jvm.MethodName) jdk_39_method_1_code (1 : Nat) (Option.none : Option Jvm.ClassFile.FieldType)).before args0 about1 = true := code_word (m := ⟨25, 0⟩) (meth := k25m0) (c := k25c0) (by decide +kernel) rfl rfl rfl (by decide +kernel)
set_option maxRecDepth 65536 in
theorem w_c12 : (Jvm.Cond.code ({ cls := "java/util/AbstractCollection", name := "<init>", desc := "()V" } : Jvm.MethodName) jdk_22_method_1_code (1 : Nat) (Option.none : Option Jvm.ClassFile.FieldType)).before args0 about1 = true := code_word (m := ⟨17, 0⟩) (meth := k17m0) (c := k17c0) (by decide +kernel) rfl rfl rfl (by decide +kernel)
set_option maxRecDepth 65536 in
theorem w_c13 : (Jvm.Cond.code ({ cls := "com/example/abstract_to_verify/abstracttoverify/model/Substitution", name := "<init>", desc := "(ILjava/util/List;)V" } : Jvm.MethodName) prog_108_method_1_code (5 : Nat) (Option.none : Option Jvm.ClassFile.FieldType)).before args0 about1 = true := code_word (m := ⟨30, 0⟩) (meth := k30m0) (c := k30c0) (by decide +kernel) rfl rfl rfl (by decide +kernel)
set_option maxRecDepth 65536 in
theorem w_c14 : (Jvm.Cond.code ({ cls := "java/util/ArrayList", name := "iterator", desc := "()Ljava/util/Iterator;" } : Jvm.MethodName) jdk_38_method_55_code (1 : Nat) (Option.some (Jvm.ClassFile.FieldType.object "java/util/Iterator"))).before args0 about1 = true := code_word (m := ⟨27, 5⟩) (meth := k27m5) (c := k27c5) (by decide +kernel) rfl rfl rfl (by decide +kernel)
set_option maxRecDepth 65536 in
theorem w_c15 : (Jvm.Cond.code ({ cls := "java/util/ArrayList$Itr", name := "<init>", desc := "(Ljava/util/ArrayList;)V" } : Jvm.MethodName) jdk_49_method_1_code (2 : Nat) (Option.none : Option Jvm.ClassFile.FieldType)).before args0 about1 = true := code_word (m := ⟨31, 0⟩) (meth := k31m0) (c := k31c0) (by decide +kernel) rfl rfl rfl (by decide +kernel)
set_option maxRecDepth 65536 in
theorem w_c16 : (Jvm.Cond.code ({ cls := "java/util/ArrayList$Itr", name := "hasNext", desc := "()Z" } : Jvm.MethodName) jdk_49_method_2_code (1 : Nat) (Option.some Jvm.ClassFile.FieldType.boolean)).before args0 about1 = true := code_word (m := ⟨31, 1⟩) (meth := k31m1) (c := k31c1) (by decide +kernel) rfl rfl rfl (by decide +kernel)
set_option maxRecDepth 65536 in
theorem w_c17 : (Jvm.Cond.code ({ cls := "com/example/abstract_to_verify/abstracttoverify/model/Substitution", name := "variable", desc := "(Lcom/example/abstract_to_verify/abstracttoverify/model/Variable;)Lcom/example/abstract_to_verify/abstracttoverify/model/Term;" } : Jvm.MethodName) prog_108_method_3_code (3 : Nat) (Option.some (Jvm.ClassFile.FieldType.object "com/example/abstract_to_verify/abstracttoverify/model/Term"))).before args0 about1 = true := code_word (m := ⟨30, 1⟩) (meth := k30m1) (c := k30c1) (by decide +kernel) rfl rfl rfl (by decide +kernel)
set_option maxRecDepth 65536 in
theorem w_c18 : (Jvm.Cond.code ({ cls := "com/example/abstract_to_verify/abstracttoverify/model/Variable", name := "index", desc := "()I" } : Jvm.MethodName) prog_117_method_5_code (1 : Nat) (Option.some Jvm.ClassFile.FieldType.int)).before args0 about1 = true := code_word (m := ⟨5, 1⟩) (meth := k5m1) (c := k5c1) (by decide +kernel) rfl rfl rfl (by decide +kernel)
set_option maxRecDepth 65536 in
theorem w_c19 : (Jvm.Cond.code ({ cls := "com/example/abstract_to_verify/abstracttoverify/model/SubstitutionVariablePinLaw", name := "expect", desc := "([Lcom/example/abstract_to_verify/abstracttoverify/model/Variable;IIIIII)Lcom/example/abstract_to_verify/abstracttoverify/model/Term;" } : Jvm.MethodName) method_2_code (8 : Nat) (Option.some (Jvm.ClassFile.FieldType.object "com/example/abstract_to_verify/abstracttoverify/model/Term"))).before args0 about1 = true := code_word (m := ⟨1, 1⟩) (meth := k1m1) (c := k1c1) (by decide +kernel) rfl rfl rfl (by decide +kernel)
set_option maxRecDepth 65536 in
theorem w_c20 : (Jvm.Cond.code ({ cls := "com/example/abstract_to_verify/abstracttoverify/model/Assignment", name := "<init>", desc := "(Lcom/example/abstract_to_verify/abstracttoverify/model/Variable;Lcom/example/abstract_to_verify/abstracttoverify/model/Term;)V" } : Jvm.MethodName) prog_67_method_1_code (3 : Nat) (Option.none : Option Jvm.ClassFile.FieldType)).before args0 about1 = true := code_word (m := ⟨32, 0⟩) (meth := k32m0) (c := k32c0) (by decide +kernel) rfl rfl rfl (by decide +kernel)
set_option maxRecDepth 65536 in
theorem w_c21 : (Jvm.Cond.code ({ cls := "java/util/ArrayList", name := "add", desc := "(Ljava/lang/Object;)Z" } : Jvm.MethodName) jdk_38_method_25_code (2 : Nat) (Option.some Jvm.ClassFile.FieldType.boolean)).before args0 about1 = true := code_word (m := ⟨27, 4⟩) (meth := k27m4) (c := k27c4) (by decide +kernel) rfl rfl rfl (by decide +kernel)
set_option maxRecDepth 65536 in
theorem w_c22 : (Jvm.Cond.code ({ cls := "java/util/ArrayList", name := "add", desc := "(Ljava/lang/Object;[Ljava/lang/Object;I)V" } : Jvm.MethodName) jdk_38_method_24_code (4 : Nat) (Option.none : Option Jvm.ClassFile.FieldType)).before args0 about1 = true := code_word (m := ⟨27, 3⟩) (meth := k27m3) (c := k27c3) (by decide +kernel) rfl rfl rfl (by decide +kernel)
set_option maxRecDepth 65536 in
theorem w_c23 : (Jvm.Cond.code ({ cls := "java/util/ArrayList", name := "grow", desc := "()[Ljava/lang/Object;" } : Jvm.MethodName) jdk_38_method_7_code (1 : Nat) (Option.some (Jvm.ClassFile.FieldType.array (Jvm.ClassFile.FieldType.object "java/lang/Object")))).before args0 about1 = true := code_word (m := ⟨27, 2⟩) (meth := k27m2) (c := k27c2) (by decide +kernel) rfl rfl rfl (by decide +kernel)
set_option maxRecDepth 65536 in
theorem w_c24 : (Jvm.Cond.code ({ cls := "java/util/ArrayList", name := "grow", desc := "(I)[Ljava/lang/Object;" } : Jvm.MethodName) jdk_38_method_6_code (4 : Nat) (Option.some (Jvm.ClassFile.FieldType.array (Jvm.ClassFile.FieldType.object "java/lang/Object")))).before args0 about1 = true := code_word (m := ⟨27, 1⟩) (meth := k27m1) (c := k27c1) (by decide +kernel) rfl rfl rfl (by decide +kernel)
set_option maxRecDepth 65536 in
theorem w_c25 : (Jvm.Cond.code ({ cls := "java/lang/Math", name := "max", desc := "(II)I" } : Jvm.MethodName) jdk_29_method_65_code (2 : Nat) (Option.some Jvm.ClassFile.FieldType.int)).before args0 about1 = true := code_word (m := ⟨33, 1⟩) (meth := k33m1) (c := k33c1) (by decide +kernel) rfl rfl rfl (by decide +kernel)
set_option maxRecDepth 65536 in
theorem w_c26 : (Jvm.Cond.code ({ cls := "java/util/ArrayList$Itr", name := "next", desc := "()Ljava/lang/Object;" } : Jvm.MethodName) jdk_49_method_3_code (3 : Nat) (Option.some (Jvm.ClassFile.FieldType.object "java/lang/Object"))).before args0 about1 = true := code_word (m := ⟨31, 2⟩) (meth := k31m2) (c := k31c2) (by decide +kernel) rfl rfl rfl (by decide +kernel)
set_option maxRecDepth 65536 in
theorem w_c27 : (Jvm.Cond.code ({ cls := "java/util/ArrayList$Itr", name := "checkForComodification", desc := "()V" } : Jvm.MethodName) jdk_49_method_6_code (1 : Nat) (Option.none : Option Jvm.ClassFile.FieldType)).before args0 about1 = true := code_word (m := ⟨31, 3⟩) (meth := k31m3) (c := k31c3) (by decide +kernel) rfl rfl rfl (by decide +kernel)
set_option maxRecDepth 65536 in
theorem w_c28 : (Jvm.Cond.code ({ cls := "com/example/abstract_to_verify/abstracttoverify/model/Assignment", name := "target", desc := "()Lcom/example/abstract_to_verify/abstracttoverify/model/Variable;" } : Jvm.MethodName) prog_67_method_2_code (1 : Nat) (Option.some (Jvm.ClassFile.FieldType.object "com/example/abstract_to_verify/abstracttoverify/model/Variable"))).before args0 about1 = true := code_word (m := ⟨32, 1⟩) (meth := k32m1) (c := k32c1) (by decide +kernel) rfl rfl rfl (by decide +kernel)
set_option maxRecDepth 65536 in
theorem w_c29 : (Jvm.Cond.code ({ cls := "com/example/abstract_to_verify/abstracttoverify/model/Assignment", name := "value", desc := "()Lcom/example/abstract_to_verify/abstracttoverify/model/Term;" } : Jvm.MethodName) prog_67_method_3_code (1 : Nat) (Option.some (Jvm.ClassFile.FieldType.object "com/example/abstract_to_verify/abstracttoverify/model/Term"))).before args0 about1 = true := code_word (m := ⟨32, 2⟩) (meth := k32m2) (c := k32c2) (by decide +kernel) rfl rfl rfl (by decide +kernel)
def codes1 : List Jvm.Cond := [Jvm.Cond.code x code maxLocals ret, Jvm.Cond.code ({ cls := "com/example/abstract_to_verify/abstracttoverify/model/Variable", name := "<init>", desc := "(Ljava/lang/String;ZI)V" } : Jvm.MethodName) prog_117_method_1_code (4 : Nat) (Option.none : Option Jvm.ClassFile.FieldType), Jvm.Cond.code ({ cls := "java/util/List", name := "of", desc := "()Ljava/util/List;" } : Jvm.MethodName) jdk_40_method_36_code (0 : Nat) (Option.some (Jvm.ClassFile.FieldType.object "java/util/List")), Jvm.Cond.code ({ cls := "com/example/abstract_to_verify/abstracttoverify/model/Term", name := "<init>", desc := "(Ljava/util/List;)V" } : Jvm.MethodName) prog_110_method_1_code (2 : Nat) (Option.none : Option Jvm.ClassFile.FieldType), Jvm.Cond.code ({ cls := "com/example/abstract_to_verify/abstracttoverify/model/Expression", name := "<init>", desc := "(Ljava/util/List;)V" } : Jvm.MethodName) prog_83_method_1_code (5 : Nat) (Option.none : Option Jvm.ClassFile.FieldType), Jvm.Cond.code ({ cls := "java/lang/Object", name := "<init>", desc := "()V" } : Jvm.MethodName) object_method_1_code (1 : Nat) (Option.none : Option Jvm.ClassFile.FieldType), Jvm.Cond.code ({ cls := "java/util/ImmutableCollections$AbstractImmutableList", name := "iterator", desc := "()Ljava/util/Iterator;" } : Jvm.MethodName) jdk_46_method_10_code (1 : Nat) (Option.some (Jvm.ClassFile.FieldType.object "java/util/Iterator")), Jvm.Cond.code ({ cls := "java/util/ImmutableCollections$ListN", name := "size", desc := "()I" } : Jvm.MethodName) jdk_45_method_3_code (1 : Nat) (Option.some Jvm.ClassFile.FieldType.int), Jvm.Cond.code ({ cls := "java/util/ImmutableCollections$ListItr", name := "<init>", desc := "(Ljava/util/List;I)V" } : Jvm.MethodName) jdk_53_method_1_code (3 : Nat) (Option.none : Option Jvm.ClassFile.FieldType), Jvm.Cond.code ({ cls := "java/util/ImmutableCollections$ListItr", name := "hasNext", desc := "()Z" } : Jvm.MethodName) jdk_53_method_3_code (1 : Nat) (Option.some Jvm.ClassFile.FieldType.boolean), Jvm.Cond.code ({ cls := "java/util/ArrayList", name := "<init>", desc := "()V" } : Jvm.MethodName) jdk_38_method_2_code (1 : Nat) (Option.none : Option Jvm.ClassFile.FieldType), Jvm.Cond.code ({ cls := "java/util/AbstractList", name := "<init>", desc := "()V" } : Jvm.MethodName) jdk_39_method_1_code (1 : Nat) (Option.none : Option Jvm.ClassFile.FieldType), Jvm.Cond.code ({ cls := "java/util/AbstractCollection", name := "<init>", desc := "()V" } : Jvm.MethodName) jdk_22_method_1_code (1 : Nat) (Option.none : Option Jvm.ClassFile.FieldType), Jvm.Cond.code ({ cls := "com/example/abstract_to_verify/abstracttoverify/model/Substitution", name := "<init>", desc := "(ILjava/util/List;)V" } : Jvm.MethodName) prog_108_method_1_code (5 : Nat) (Option.none : Option Jvm.ClassFile.FieldType), Jvm.Cond.code ({ cls := "java/util/ArrayList", name := "iterator", desc := "()Ljava/util/Iterator;" } : Jvm.MethodName) jdk_38_method_55_code (1 : Nat) (Option.some (Jvm.ClassFile.FieldType.object "java/util/Iterator")), Jvm.Cond.code ({ cls := "java/util/ArrayList$Itr", name := "<init>", desc := "(Ljava/util/ArrayList;)V" } : Jvm.MethodName) jdk_49_method_1_code (2 : Nat) (Option.none : Option Jvm.ClassFile.FieldType), Jvm.Cond.code ({ cls := "java/util/ArrayList$Itr", name := "hasNext", desc := "()Z" } : Jvm.MethodName) jdk_49_method_2_code (1 : Nat) (Option.some Jvm.ClassFile.FieldType.boolean), Jvm.Cond.code ({ cls := "com/example/abstract_to_verify/abstracttoverify/model/Substitution", name := "variable", desc := "(Lcom/example/abstract_to_verify/abstracttoverify/model/Variable;)Lcom/example/abstract_to_verify/abstracttoverify/model/Term;" } : Jvm.MethodName) prog_108_method_3_code (3 : Nat) (Option.some (Jvm.ClassFile.FieldType.object "com/example/abstract_to_verify/abstracttoverify/model/Term")), Jvm.Cond.code ({ cls := "com/example/abstract_to_verify/abstracttoverify/model/Variable", name := "index", desc := "()I" } : Jvm.MethodName) prog_117_method_5_code (1 : Nat) (Option.some Jvm.ClassFile.FieldType.int), Jvm.Cond.code ({ cls := "com/example/abstract_to_verify/abstracttoverify/model/SubstitutionVariablePinLaw", name := "expect", desc := "([Lcom/example/abstract_to_verify/abstracttoverify/model/Variable;IIIIII)Lcom/example/abstract_to_verify/abstracttoverify/model/Term;" } : Jvm.MethodName) method_2_code (8 : Nat) (Option.some (Jvm.ClassFile.FieldType.object "com/example/abstract_to_verify/abstracttoverify/model/Term")), Jvm.Cond.code ({ cls := "com/example/abstract_to_verify/abstracttoverify/model/Assignment", name := "<init>", desc := "(Lcom/example/abstract_to_verify/abstracttoverify/model/Variable;Lcom/example/abstract_to_verify/abstracttoverify/model/Term;)V" } : Jvm.MethodName) prog_67_method_1_code (3 : Nat) (Option.none : Option Jvm.ClassFile.FieldType), Jvm.Cond.code ({ cls := "java/util/ArrayList", name := "add", desc := "(Ljava/lang/Object;)Z" } : Jvm.MethodName) jdk_38_method_25_code (2 : Nat) (Option.some Jvm.ClassFile.FieldType.boolean), Jvm.Cond.code ({ cls := "java/util/ArrayList", name := "add", desc := "(Ljava/lang/Object;[Ljava/lang/Object;I)V" } : Jvm.MethodName) jdk_38_method_24_code (4 : Nat) (Option.none : Option Jvm.ClassFile.FieldType), Jvm.Cond.code ({ cls := "java/util/ArrayList", name := "grow", desc := "()[Ljava/lang/Object;" } : Jvm.MethodName) jdk_38_method_7_code (1 : Nat) (Option.some (Jvm.ClassFile.FieldType.array (Jvm.ClassFile.FieldType.object "java/lang/Object"))), Jvm.Cond.code ({ cls := "java/util/ArrayList", name := "grow", desc := "(I)[Ljava/lang/Object;" } : Jvm.MethodName) jdk_38_method_6_code (4 : Nat) (Option.some (Jvm.ClassFile.FieldType.array (Jvm.ClassFile.FieldType.object "java/lang/Object"))), Jvm.Cond.code ({ cls := "java/lang/Math", name := "max", desc := "(II)I" } : Jvm.MethodName) jdk_29_method_65_code (2 : Nat) (Option.some Jvm.ClassFile.FieldType.int), Jvm.Cond.code ({ cls := "java/util/ArrayList$Itr", name := "next", desc := "()Ljava/lang/Object;" } : Jvm.MethodName) jdk_49_method_3_code (3 : Nat) (Option.some (Jvm.ClassFile.FieldType.object "java/lang/Object")), Jvm.Cond.code ({ cls := "java/util/ArrayList$Itr", name := "checkForComodification", desc := "()V" } : Jvm.MethodName) jdk_49_method_6_code (1 : Nat) (Option.none : Option Jvm.ClassFile.FieldType), Jvm.Cond.code ({ cls := "com/example/abstract_to_verify/abstracttoverify/model/Assignment", name := "target", desc := "()Lcom/example/abstract_to_verify/abstracttoverify/model/Variable;" } : Jvm.MethodName) prog_67_method_2_code (1 : Nat) (Option.some (Jvm.ClassFile.FieldType.object "com/example/abstract_to_verify/abstracttoverify/model/Variable")), Jvm.Cond.code ({ cls := "com/example/abstract_to_verify/abstracttoverify/model/Assignment", name := "value", desc := "()Lcom/example/abstract_to_verify/abstracttoverify/model/Term;" } : Jvm.MethodName) prog_67_method_3_code (1 : Nat) (Option.some (Jvm.ClassFile.FieldType.object "com/example/abstract_to_verify/abstracttoverify/model/Term"))]
set_option maxRecDepth 65536 in
theorem codes_eq : words1.filter isCode = codes1 := rfl
theorem w_codes : ∀ c ∈ words1.filter isCode, c.before args0 about1 = true := by
  rw [codes_eq]
  intro c hc
  simp only [codes1, List.mem_cons, List.not_mem_nil, or_false] at hc
  rcases hc with rfl | rfl | rfl | rfl | rfl | rfl | rfl | rfl | rfl | rfl | rfl | rfl | rfl | rfl | rfl | rfl | rfl | rfl | rfl | rfl | rfl | rfl | rfl | rfl | rfl | rfl | rfl | rfl | rfl | rfl
  · exact w_c0
  · exact w_c1
  · exact w_c2
  · exact w_c3
  · exact w_c4
  · exact w_c5
  · exact w_c6
  · exact w_c7
  · exact w_c8
  · exact w_c9
  · exact w_c10
  · exact w_c11
  · exact w_c12
  · exact w_c13
  · exact w_c14
  · exact w_c15
  · exact w_c16
  · exact w_c17
  · exact w_c18
  · exact w_c19
  · exact w_c20
  · exact w_c21
  · exact w_c22
  · exact w_c23
  · exact w_c24
  · exact w_c25
  · exact w_c26
  · exact w_c27
  · exact w_c28
  · exact w_c29
set_option maxRecDepth 65536 in
theorem w_t1 : (words1.take 24).all (fun c => isCode c || c.before args0 about1) = true := by decide +kernel
set_option maxRecDepth 65536 in
theorem w_t2 : ((words1.drop 24).take 24).all (fun c => isCode c || c.before args0 about1) = true := by decide +kernel
set_option maxRecDepth 65536 in
theorem w_t3 : (((words1.drop 24).drop 24).take 24).all (fun c => isCode c || c.before args0 about1) = true := by decide +kernel
set_option maxRecDepth 65536 in
theorem w_t4 : ((((words1.drop 24).drop 24).drop 24).take 24).all (fun c => isCode c || c.before args0 about1) = true := by decide +kernel
set_option maxRecDepth 65536 in
theorem w_t5 : (((((words1.drop 24).drop 24).drop 24).drop 24).take 24).all (fun c => isCode c || c.before args0 about1) = true := by decide +kernel
set_option maxRecDepth 65536 in
theorem w_t6 : ((((((words1.drop 24).drop 24).drop 24).drop 24).drop 24).take 24).all (fun c => isCode c || c.before args0 about1) = true := by decide +kernel
set_option maxRecDepth 65536 in
theorem w_t7 : (((((((words1.drop 24).drop 24).drop 24).drop 24).drop 24).drop 24).take 24).all (fun c => isCode c || c.before args0 about1) = true := by decide +kernel
set_option maxRecDepth 65536 in
theorem w_t8 : ((((((((words1.drop 24).drop 24).drop 24).drop 24).drop 24).drop 24).drop 24).take 24).all (fun c => isCode c || c.before args0 about1) = true := by decide +kernel
set_option maxRecDepth 65536 in
theorem w_t9 : (((((((((words1.drop 24).drop 24).drop 24).drop 24).drop 24).drop 24).drop 24).drop 24).take 24).all (fun c => isCode c || c.before args0 about1) = true := by decide +kernel
set_option maxRecDepth 65536 in
theorem w_t10 : ((((((((((words1.drop 24).drop 24).drop 24).drop 24).drop 24).drop 24).drop 24).drop 24).drop 24).take 24).all (fun c => isCode c || c.before args0 about1) = true := by decide +kernel
set_option maxRecDepth 65536 in
theorem w_t11 : ((((((((((words1.drop 24).drop 24).drop 24).drop 24).drop 24).drop 24).drop 24).drop 24).drop 24).drop 24).all (fun c => isCode c || c.before args0 about1) = true := by decide +kernel
theorem w_tables : (allAtoms (Jvm.Cond.code x code maxLocals ret :: tables_1)).before args0 about1 = true := by
  rw [allAtoms_all]
  show words1.all (fun c => c.before args0 about1) = true
  refine all_split ?_ w_codes
  rw [← List.take_append_drop 24 words1, List.all_append, w_t1, ← List.take_append_drop 24 (words1.drop 24), List.all_append, w_t2, ← List.take_append_drop 24 ((words1.drop 24).drop 24), List.all_append, w_t3, ← List.take_append_drop 24 (((words1.drop 24).drop 24).drop 24), List.all_append, w_t4, ← List.take_append_drop 24 ((((words1.drop 24).drop 24).drop 24).drop 24), List.all_append, w_t5, ← List.take_append_drop 24 (((((words1.drop 24).drop 24).drop 24).drop 24).drop 24), List.all_append, w_t6, ← List.take_append_drop 24 ((((((words1.drop 24).drop 24).drop 24).drop 24).drop 24).drop 24), List.all_append, w_t7, ← List.take_append_drop 24 (((((((words1.drop 24).drop 24).drop 24).drop 24).drop 24).drop 24).drop 24), List.all_append, w_t8, ← List.take_append_drop 24 ((((((((words1.drop 24).drop 24).drop 24).drop 24).drop 24).drop 24).drop 24).drop 24), List.all_append, w_t9, ← List.take_append_drop 24 (((((((((words1.drop 24).drop 24).drop 24).drop 24).drop 24).drop 24).drop 24).drop 24).drop 24), List.all_append, w_t10, w_t11]
  rfl
set_option maxRecDepth 65536 in
theorem w_rest : rest_1_c.before args0 about1 = true := by decide +kernel
set_option maxRecDepth 65536 in
theorem w_case : (Jvm.Cond.and given_1 narrow_1).before args0 about1 = true := by decide +kernel
theorem w_applies : (headSpec (Jvm.Cond.code x code maxLocals ret :: tables_1) room_1).applies x e0.platform about1 = true :=
  (Spec.applies_iff w_frames).mpr ⟨w_running, w_runnable, w_alone, w_named, w_hears, w_ripe, w_room, w_tables⟩
theorem atStart : AtStart classFile x code maxLocals ret World_1 tables_1 room_1 Calls_1 rest_1 Pre_1 launch0 p0 e0 about1 theMethod args0 below0 :=
  ⟨lists_1, trivial, launch0.admits_env _ _ _, launch0.least_env, fairChoices_fair.cas, fairChoices_fair.clock, w_frames, w_args, w_heap, w_applies, trivial, w_rest, w_case⟩
end start1
theorem witness_1 : WitnessClaimed_1 := ⟨start1.p0, start1.e0, start1.about1, start1.theMethod, start1.args0, start1.below0, start1.atStart⟩
end Jvm.Pilot.@@N@@
