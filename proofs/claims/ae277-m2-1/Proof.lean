import JvmDerived
import JvmDerived.Pilot.@@N@@Statement
import JvmDerived.Pilot.@@N@@Code
set_option linter.unusedVariables false
set_option linter.unusedSimpArgs false
namespace Jvm.RoadKit
open Sem ClassFile Op Lib Jvm.Stand Jvm.Free Jvm.LawKit
section New
variable {p : Program} {l : Launch} {e : Env} {R : Room} {s : State} {m : MethodId} {args : Array Value} {below : List Frame} {meth : Method} {c : Code} {T T' : State} {locs : List Loc} {cells slots : Nat}
theorem retI (X : Stand p l e R s m args below meth c T locs cells slots) (hx : p.tables.exec = Jvm.exec) {pc : Nat} {Ls : Array Slot} {z : Int32} {rest : List Value} (hret : meth.sig.returnType = some .int) (hd : decode c.code pc = .ok (.ireturn, 1)) {fs : List Frame}
    (hl : ∀ (f : JFrame) (acts : List Action), f.method = m → f.locked = none → f.entered = [] → (doReturn e (T.setTop f) acts (some (.int z))).1 = T.setFrames fs) : Steps p.tables e below (T.setTop (mkF m pc Ls (.int z :: rest))) (T.setFrames fs) := by
  have hm' : T.vm.method? m = some meth := X.method'
  have hn : narrow .int (.int z) = .int z := rfl
  show Steps p.tables e below (T.setTop { method := m, pc := pc, locals := Ls, stack := _ :: rest, locked := none }) _
  jvm_step X.here [X.here.top, hx, hd, hm', hret, hn]
  first | (intro acts; rw [hl _ acts rfl rfl rfl]) | rw [hl _ _ rfl rfl rfl]
  exact Steps.refl _
/-- from here the run comes to its return, and Q holds of what it returns, of the heap and of what it wrote -/
def Go (p : Program) (e : Env) (below : List Frame) (s : State) (Q : Option Value → Heap → List Loc → Prop) (kc ks : Nat) (T : State) (g : JFrame) : Prop :=
  ∃ s₂ o, Steps p.tables e below (T.setTop g) s₂ ∧ s₂.status = .running ∧ Ended s₂ below o ∧ ∃ v L, o = .returned v ∧ Q v s₂.heap L ∧ FrameEnd s o s₂ L kc ks
variable {Q : Option Value → Heap → List Loc → Prop} {kc ks : Nat} {g g' : JFrame}
theorem Go.step (h : ∀ t, Steps p.tables e below (T'.setTop g') t → Steps p.tables e below (T.setTop g) t) (k : Go p e below s Q kc ks T' g') : Go p e below s Q kc ks T g := by
  obtain ⟨s₂, o, h1, r⟩ := k
  exact ⟨s₂, o, h _ h1, r⟩
theorem Go.cast (q : g = g') (k : Go p e below s Q kc ks T g') : Go p e below s Q kc ks T g := q ▸ k
theorem Go.done (X : Stand p l e R s m args below meth c T locs cells slots) (hlocks : meth.locks = false) {v : Option Value} (hv : meth.sig.returnType = none → v = none)
    (hret : ∀ fs, (∀ (f : JFrame) (acts : List Action), f.method = m → f.locked = none → f.entered = [] → (doReturn e (T.setTop f) acts v).1 = T.setFrames fs) → Steps p.tables e below (T.setTop g) (T.setFrames fs))
    {h : Heap} (eT : T.heap = h) (hQ : Q v h locs) (hc : cells ≤ kc) (hs : slots ≤ ks) : Go p e below s Q kc ks T g := by
  obtain ⟨fs, hr, hrun, hended, hW, hsame⟩ := X.leave hv hlocks
  refine ⟨_, _, hret fs hr, hrun, hended, _, _, rfl, ?_, ⟨_, rfl⟩, hW, hsame.mono hc hs⟩
  show Q v T.heap locs
  rw [eT]
  exact hQ
theorem Go.retV (X : Stand p l e R s m args below meth c T locs cells slots) (hx : p.tables.exec = Jvm.exec) (hlocks : meth.locks = false) (hr : meth.sig.returnType = none) {pc : Nat} {Ls : Array Slot} (hd : decode c.code pc = .ok (.return_, 1))
    {h : Heap} (eT : T.heap = h) (hQ : Q none h locs) (hc : cells ≤ kc) (hs : slots ≤ ks) : Go p e below s Q kc ks T (mkF m pc Ls []) :=
  Go.done X hlocks (fun _ => rfl) (fun fs k => X.returnOut hx hr hd k) eT hQ hc hs
theorem Go.retN (X : Stand p l e R s m args below meth c T locs cells slots) (hx : p.tables.exec = Jvm.exec) (hlocks : meth.locks = false) {t : FieldType} (hr : meth.sig.returnType = some t) (ht : t = .boolean ∨ t = .byte ∨ t = .char ∨ t = .short) {pc : Nat} {Ls : Array Slot} {z : Int32} {st : List Value} (hd : decode c.code pc = .ok (.ireturn, 1))
    {h : Heap} (eT : T.heap = h) (hQ : Q (some (.int (nar t z))) h locs) (hc : cells ≤ kc) (hs : slots ≤ ks) : Go p e below s Q kc ks T (mkF m pc Ls (.int z :: st)) :=
  Go.done X hlocks (fun q => by rw [hr] at q; cases q) (fun fs k => Jvm.RoadKit.retN X hx hr ht hd k) eT hQ hc hs
theorem Go.retI (X : Stand p l e R s m args below meth c T locs cells slots) (hx : p.tables.exec = Jvm.exec) (hlocks : meth.locks = false) (hr : meth.sig.returnType = some .int) {pc : Nat} {Ls : Array Slot} {z : Int32} {st : List Value} (hd : decode c.code pc = .ok (.ireturn, 1))
    {h : Heap} (eT : T.heap = h) (hQ : Q (some (.int z)) h locs) (hc : cells ≤ kc) (hs : slots ≤ ks) : Go p e below s Q kc ks T (mkF m pc Ls (.int z :: st)) :=
  Go.done X hlocks (fun q => by rw [hr] at q; cases q) (fun fs k => Jvm.RoadKit.retI X hx hr hd k) eT hQ hc hs
theorem Go.retJ (X : Stand p l e R s m args below meth c T locs cells slots) (hx : p.tables.exec = Jvm.exec) (hlocks : meth.locks = false) (hr : meth.sig.returnType = some .long) {pc : Nat} {Ls : Array Slot} {z : Int64} {st : List Value} (hd : decode c.code pc = .ok (.lreturn, 1))
    {h : Heap} (eT : T.heap = h) (hQ : Q (some (.long z)) h locs) (hc : cells ≤ kc) (hs : slots ≤ ks) : Go p e below s Q kc ks T (mkF m pc Ls (.long z :: st)) :=
  Go.done X hlocks (fun q => by rw [hr] at q; cases q) (fun fs k => retOut X hx hr rfl (Or.inr (Or.inl ⟨rfl, rfl, _, rfl⟩)) hd k) eT hQ hc hs
theorem Go.retA (X : Stand p l e R s m args below meth c T locs cells slots) (hx : p.tables.exec = Jvm.exec) (hlocks : meth.locks = false) {t : FieldType} (hr : meth.sig.returnType = some t) (ht : t.isReference = true) {w : Value} (hw : w.isRef = true) {pc : Nat} {Ls : Array Slot} {st : List Value} (hd : decode c.code pc = .ok (.areturn, 1))
    {h : Heap} (eT : T.heap = h) (hQ : Q (some w) h locs) (hc : cells ≤ kc) (hs : slots ≤ ks) : Go p e below s Q kc ks T (mkF m pc Ls (w :: st)) :=
  Go.done X hlocks (fun q => by rw [hr] at q; cases q) (fun fs k => retOut X hx hr (by cases t <;> first | (cases ht; done) | (rcases ref_cases hw with rfl | ⟨a, rfl⟩ <;> rfl)) (Or.inr (Or.inr (Or.inr (Or.inr ⟨rfl, ht, hw⟩)))) hd k) eT hQ hc hs
end New
end Jvm.RoadKit
namespace Jvm.Pilot.@@N@@
open Jvm Jvm.ClassFile Sem Op Lib Jvm.Free Jvm.Stand Jvm.LawKit Jvm.RoadKit Bundle Jvm.Pilot.@@N@@.Jvm.D
def own_ws (c : Int32) : Int32 := if c = (32 : Int32) then 1 else if c < (9 : Int32) then 0 else if (13 : Int32) < c then 0 else 1
def own_ex (c : Int32) : Int32 := if c = (9 : Int32) then 1 else if c = (10 : Int32) then 1 else if c = (11 : Int32) then 1 else if c = (12 : Int32) then 1 else if c = (13 : Int32) then 1 else if c = (32 : Int32) then 1 else 0
theorem own_same (c : Int32) : own_ws c = own_ex c := by
  unfold own_ws own_ex
  simp only [← Int32.toInt_inj, Int32.lt_iff_toInt_lt]
  have e9 : (9 : Int32).toInt = 9 := rfl
  have e10 : (10 : Int32).toInt = 10 := rfl
  have e11 : (11 : Int32).toInt = 11 := rfl
  have e12 : (12 : Int32).toInt = 12 := rfl
  have e13 : (13 : Int32).toInt = 13 := rfl
  have e32 : (32 : Int32).toInt = 32 := rfl
  simp only [e9, e10, e11, e12, e13, e32]
  generalize c.toInt = z
  by_cases h1 : z = 32
  · subst h1; rfl
  · rw [if_neg h1]
    by_cases h2 : z < 9
    · rw [if_pos h2, if_neg (by omega), if_neg (by omega), if_neg (by omega), if_neg (by omega), if_neg (by omega), if_neg h1]
    · rw [if_neg h2]
      by_cases h3 : 13 < z
      · rw [if_pos h3, if_neg (by omega), if_neg (by omega), if_neg (by omega), if_neg (by omega), if_neg (by omega), if_neg h1]
      · rw [if_neg h3]
        by_cases k1 : z = 9
        · rw [if_pos k1]
        · rw [if_neg k1]
          by_cases k2 : z = 10
          · rw [if_pos k2]
          · rw [if_neg k2]
            by_cases k3 : z = 11
            · rw [if_pos k3]
            · rw [if_neg k3]
              by_cases k4 : z = 12
              · rw [if_pos k4]
              · rw [if_neg k4, if_pos (by omega)]
theorem d0_0 : decode prog_58_method_6_code 0 = .ok (.iload_n 0, 1) := by decide +kernel
theorem d0_1 : decode prog_58_method_6_code 1 = .ok (.bipush 32, 2) := by decide +kernel
theorem d0_3 : decode prog_58_method_6_code 3 = .ok (.if_icmp .eq 15, 3) := by decide +kernel
theorem d0_6 : decode prog_58_method_6_code 6 = .ok (.iload_n 0, 1) := by decide +kernel
theorem d0_7 : decode prog_58_method_6_code 7 = .ok (.bipush 9, 2) := by decide +kernel
theorem d0_9 : decode prog_58_method_6_code 9 = .ok (.if_icmp .lt 13, 3) := by decide +kernel
theorem d0_12 : decode prog_58_method_6_code 12 = .ok (.iload_n 0, 1) := by decide +kernel
theorem d0_13 : decode prog_58_method_6_code 13 = .ok (.bipush 13, 2) := by decide +kernel
theorem d0_15 : decode prog_58_method_6_code 15 = .ok (.if_icmp .gt 7, 3) := by decide +kernel
theorem d0_18 : decode prog_58_method_6_code 18 = .ok (.iconst 1, 1) := by decide +kernel
theorem d0_19 : decode prog_58_method_6_code 19 = .ok (.goto 4, 3) := by decide +kernel
theorem d0_22 : decode prog_58_method_6_code 22 = .ok (.iconst 0, 1) := by decide +kernel
theorem d0_23 : decode prog_58_method_6_code 23 = .ok (.ireturn, 1) := by decide +kernel
theorem tw0 {Z : State} {a0 : Array Value} (hw : ∀ d ∈ tables_1, d.before a0 Z = true) : (Jvm.Cond.methodLink "com/example/vaatimus/vaatimus/rules/ValueChecksWhitespacePinLaw" (7 : Nat) ({ cls := "com/example/vaatimus/vaatimus/rules/ValueChecks", name := "whitespace", desc := "(C)Z" } : Jvm.MethodName)).before a0 Z = true := hw _ (List.mem_of_getElem? (i := 0) rfl)
theorem tw1 {Z : State} {a0 : Array Value} (hw : ∀ d ∈ tables_1, d.before a0 Z = true) : (Jvm.Cond.static ({ cls := "com/example/vaatimus/vaatimus/rules/ValueChecks", name := "whitespace", desc := "(C)Z" } : Jvm.MethodName)).before a0 Z = true := hw _ (List.mem_of_getElem? (i := 1) rfl)
theorem tw2 {Z : State} {a0 : Array Value} (hw : ∀ d ∈ tables_1, d.before a0 Z = true) : (Jvm.Cond.initialized "com/example/vaatimus/vaatimus/rules/ValueChecks").before a0 Z = true := hw _ (List.mem_of_getElem? (i := 2) rfl)
theorem tw3 {Z : State} {a0 : Array Value} (hw : ∀ d ∈ tables_1, d.before a0 Z = true) : (Jvm.Cond.code ({ cls := "com/example/vaatimus/vaatimus/rules/ValueChecks", name := "whitespace", desc := "(C)Z" } : Jvm.MethodName) prog_58_method_6_code (1 : Nat) (Option.some Jvm.ClassFile.FieldType.boolean)).before a0 Z = true := hw _ (List.mem_of_getElem? (i := 3) rfl)
theorem pd_0 : parseMethodDescriptor "(C)Z" = some ⟨[.char], some .boolean⟩ := by decide +kernel
theorem pn_0 : plainName "com/example/vaatimus/vaatimus/rules/ValueChecks" = true := by first | (simp [plainName, overriddenIn]; done) | decide +kernel
theorem pn_1 : plainName "com/example/vaatimus/vaatimus/rules/ValueChecksWhitespacePinLaw" = true := by first | (simp [plainName, overriddenIn]; done) | decide +kernel
abbrev xs0 : String := "com/example/vaatimus/vaatimus/rules/ValueChecks"
abbrev xm0 : MethodName := (⟨xs0, "whitespace", "(C)Z"⟩ : MethodName)
abbrev xr0 : Room := ({ frames := 0, cells := 0, slots := 0, locals := 0 } : Room)
theorem ef_ws (m : MethodId) (x0 : Int32) : entryFrame m #[(.int x0)] 1 = mkF m 0 #[.val (.int x0)] [] := by first | (simp [entryFrame, mkF, argsToLocals, Value.category]; done) | rfl
def Q_ws (Z : State) (p1 : Int32) (h0 : Heap) (n0 : Nat) (v : Option Value) (h : Heap) (L : List Loc) : Prop := v = some (.int (own_ws p1)) ∧ Fr n0 L ∧ h = h0
set_option maxRecDepth 65536 in
set_option maxHeartbeats 40000000 in
theorem rm_ws (l : Launch) (Z : State) (a0 : Array Value) (hw : ∀ d ∈ tables_1, d.before a0 Z = true) (ws : List Jvm.Cond) (p1 : Int32) (h0 : Heap) (n0 : Nat) (Z0 : n0 ≤ h0.size) :
    MetFree l xm0 (head1 (Jvm.Cond.code xm0 prog_58_method_6_code 1 (some .boolean) :: ws) xr0) (fun a U => a = #[(.int p1)] ∧ Z.Warmed39 U.vm ∧ U.heap = h0) (fun _ _ _ _ _ => True) (fun _ U o U' => ∃ v L, o = .returned v ∧ Q_ws Z p1 h0 n0 v U'.heap L ∧ FrameEnd U o U' L xr0.cells xr0.slots) := by
  refine MetFree.of_bodySF (plainFor_of_name pn_0) hisR ?_
  intro p e s m args below meth c s₁ Bd hml0 hP hK
  obtain ⟨rfl, hZ, hh⟩ := hP
  have hx := Bd.exec
  have hby := Bd.bytes
  have hlk : meth.locks = false := BodyLoose.notSynchronized Bd
  have hml : c.maxLocals = 1 := hml0
  have hown : s.vm.findClass xs0 = some m.cls := findClass_of_methodNamed Bd.named
  have hnm := (name_of_methodNamed Bd.named Bd.method).1
  have X0 : Stand p l e xr0 s m #[(.int p1)] below meth c s₁ [] 0 0 := Stand.of_body Bd
  have e0 : s₁.heap = h0 := by rw [← hh, Bd.state]; rfl
  have N0 := Fr.nil n0
  show Go p e below s (Q_ws Z p1 h0 n0) xr0.cells xr0.slots s₁ (entryFrame m #[(.int p1)] 1)
  refine Go.cast (ef_ws m p1) ?_
  show Go p e below s _ _ _ s₁ (mkF m 0 #[.val (.int p1)] [])
  refine Go.step (fun _ k => XS.iloadN X0.here hx rfl (hb hby d0_0) rfl (XS.bipush X0.here hx rfl (hb hby d0_1) k)) ?_
  show Go p e below s _ _ _ s₁ (mkF m 3 #[.val (.int p1)] [(.int (32 : Int32)), (.int p1)])
  by_cases k1 : p1 = (32 : Int32)
  · refine Go.step (fun _ k => XS.icmpYes X0.here hx rfl (pc0 := 3) (pc' := 18) rfl (hb hby d0_3) rfl (teq k1).1 (by decide) (by decide) (XS.iconst X0.here hx rfl (hb hby d0_18) (XS.goto X0.here hx rfl (pc0 := 19) (pc' := 23) rfl (hb hby d0_19) (by decide) (by decide) k))) ?_
    show Go p e below s _ _ _ s₁ (mkF m 23 #[.val (.int p1)] [(.int (1 : Int32))])
    exact Go.retN X0 hx hlk (t := .boolean) Bd.returns (by simp) (hb hby d0_23) e0 ⟨(by rw [own_ws, if_pos k1]; rfl), N0, rfl⟩ (by decide) (by decide)
  · refine Go.step (fun _ k => XS.icmpNo X0.here hx rfl (hb hby d0_3) rfl (feq k1).1 (XS.iloadN X0.here hx rfl (hb hby d0_6) rfl (XS.bipush X0.here hx rfl (hb hby d0_7) k))) ?_
    show Go p e below s _ _ _ s₁ (mkF m 9 #[.val (.int p1)] [(.int (9 : Int32)), (.int p1)])
    by_cases k2 : p1 < (9 : Int32)
    · refine Go.step (fun _ k => XS.icmpYes X0.here hx rfl (pc0 := 9) (pc' := 22) rfl (hb hby d0_9) rfl (tlt k2).1 (by decide) (by decide) (XS.iconst X0.here hx rfl (hb hby d0_22) k)) ?_
      show Go p e below s _ _ _ s₁ (mkF m 23 #[.val (.int p1)] [(.int (0 : Int32))])
      exact Go.retN X0 hx hlk (t := .boolean) Bd.returns (by simp) (hb hby d0_23) e0 ⟨(by rw [own_ws, if_neg k1, if_pos k2]; rfl), N0, rfl⟩ (by decide) (by decide)
    · refine Go.step (fun _ k => XS.icmpNo X0.here hx rfl (hb hby d0_9) rfl (flt k2).1 (XS.iloadN X0.here hx rfl (hb hby d0_12) rfl (XS.bipush X0.here hx rfl (hb hby d0_13) k))) ?_
      show Go p e below s _ _ _ s₁ (mkF m 15 #[.val (.int p1)] [(.int (13 : Int32)), (.int p1)])
      by_cases k3 : (13 : Int32) < p1
      · refine Go.step (fun _ k => XS.icmpYes X0.here hx rfl (pc0 := 15) (pc' := 22) rfl (hb hby d0_15) rfl (tlt k3).2.2.1 (by decide) (by decide) (XS.iconst X0.here hx rfl (hb hby d0_22) k)) ?_
        show Go p e below s _ _ _ s₁ (mkF m 23 #[.val (.int p1)] [(.int (0 : Int32))])
        exact Go.retN X0 hx hlk (t := .boolean) Bd.returns (by simp) (hb hby d0_23) e0 ⟨(by rw [own_ws, if_neg k1, if_neg k2, if_pos k3]; rfl), N0, rfl⟩ (by decide) (by decide)
      · refine Go.step (fun _ k => XS.icmpNo X0.here hx rfl (hb hby d0_15) rfl (flt k3).2.2.1 (XS.iconst X0.here hx rfl (hb hby d0_18) (XS.goto X0.here hx rfl (pc0 := 19) (pc' := 23) rfl (hb hby d0_19) (by decide) (by decide) k))) ?_
        show Go p e below s _ _ _ s₁ (mkF m 23 #[.val (.int p1)] [(.int (1 : Int32))])
        exact Go.retN X0 hx hlk (t := .boolean) Bd.returns (by simp) (hb hby d0_23) e0 ⟨(by rw [own_ws, if_neg k1, if_neg k2, if_neg k3]; rfl), N0, rfl⟩ (by decide) (by decide)

theorem ef_law (m : MethodId) (x0 : Int32) (x1 : Int32) : entryFrame m #[(.int x0), (.int x1)] maxLocals = mkF m 0 #[.val (.int x0), .val (.int x1), .unset, .unset, .unset] [] := by first | (simp [entryFrame, mkF, argsToLocals, Value.category, maxLocals]; done) | rfl
def Q_law (Z : State) (p1 : Int32) (p2 : Int32) (h0 : Heap) (n0 : Nat) (v : Option Value) (h : Heap) (L : List Loc) : Prop := v = some (.int (1 : Int32)) ∧ Fr n0 L
set_option maxRecDepth 65536 in
set_option maxHeartbeats 40000000 in
theorem rm_law (l : Launch) (Z : State) (a0 : Array Value) (hw : ∀ d ∈ tables_1, d.before a0 Z = true) (ws : List Jvm.Cond) (p1 : Int32) (p2 : Int32) (h0 : Heap) (n0 : Nat) (Z0 : n0 ≤ h0.size) :
    MetFree l x (head1 (Jvm.Cond.code x code maxLocals ret :: ws) room_1) (fun a U => a = #[(.int p1), (.int p2)] ∧ Z.Warmed39 U.vm ∧ U.heap = h0) (fun _ _ _ _ _ => True) (fun _ U o U' => ∃ v L, o = .returned v ∧ Q_law Z p1 p2 h0 n0 v U'.heap L ∧ FrameEnd U o U' L room_1.cells room_1.slots) := by
  refine MetFree.of_bodySF (plainFor_of_name pn_1) hisR ?_
  intro p e s m args below meth c s₁ Bd hml0 hP hK
  obtain ⟨rfl, hZ, hh⟩ := hP
  have hx := Bd.exec
  have hby := Bd.bytes
  have hlk : meth.locks = false := BodyLoose.notSynchronized Bd
  have hml : c.maxLocals = 5 := hml0
  have hown : s.vm.findClass "com/example/vaatimus/vaatimus/rules/ValueChecksWhitespacePinLaw" = some m.cls := findClass_of_methodNamed Bd.named
  have hnm := (name_of_methodNamed Bd.named Bd.method).1
  have X0 : Stand p l e room_1 s m #[(.int p1), (.int p2)] below meth c s₁ [] 0 0 := Stand.of_body Bd
  have e0 : s₁.heap = h0 := by rw [← hh, Bd.state]; rfl
  have N0 := Fr.nil n0
  show Go p e below s (Q_law Z p1 p2 h0 n0) room_1.cells room_1.slots s₁ (entryFrame m #[(.int p1), (.int p2)] maxLocals)
  refine Go.cast (ef_law m p1 p2) ?_
  show Go p e below s _ _ _ s₁ (mkF m 0 #[.val (.int p1), .val (.int p2), .unset, .unset, .unset] [])
  have J2 : ∀ (lo : Int32) (ch : Int32), Go p e below s (Q_law Z p1 p2 h0 n0) room_1.cells room_1.slots s₁ (mkF m 68 #[.val (.int p1), .val (.int p2), .val (.int lo), .val (.int ch), .unset] [(.int (own_ex ch))]) := by
    intro lo ch
    refine Go.step (fun _ k => XS.istore X0.here hx rfl (hb hby at_68) rfl (l' := #[.val (.int p1), .val (.int p2), .val (.int lo), .val (.int ch), .val (.int (own_ex ch))]) rfl (XS.iloadN X0.here hx rfl (hb hby at_70) rfl k)) ?_
    show Go p e below s _ _ _ s₁ (mkF m 71 #[.val (.int p1), .val (.int p2), .val (.int lo), .val (.int ch), .val (.int (own_ex ch))] [(.int ch)])
    obtain ⟨_, _, ⟨T1, L1, k1, n1⟩, -, X1, ⟨Lc1, hQ1, l1, y1, z1⟩, st1⟩ := Jvm.LawKit.callS X0 hx (y := xm0) hown (mvT hZ (tw0 hw)) (mvT hZ (tw1 hw)) (mvT hZ (tw2 hw)) (mvT hZ (tw3 hw)) (by decide) (backOf (W := 0) (rm_ws l Z a0 hw [] ch h0 n0 Z0) hZ (tw3 hw) (tw2 hw) (by decide) (by decide)) (g := (mkF m 71 #[.val (.int p1), .val (.int p2), .val (.int lo), .val (.int ch), .val (.int (own_ex ch))] [(.int ch)])) rfl (by rw [hml]; rfl) (argsL := [(.int ch)]) (rest := []) (lenOf pd_0 rfl) rfl (by show 2 * 0 + _ ≤ _; exact Nat.le_of_eq rfl) (hb hby at_71) (fun _ _ => ⟨rfl, e0, (by decide : 0 + 0 ≤ _), (by decide : 0 + 0 ≤ _)⟩)
    dsimp only [Pt.U, Pt.locs, Pt.cells, Pt.slots] at X1 l1 y1 z1 st1 hQ1
    subst l1 y1 z1
    obtain ⟨rfl, N1q, eq1⟩ := hQ1
    have N2 := Fr.app N0 N1q
    refine Go.step (fun _ k => st1 _ (XS.iload X1.here hx rfl (hb hby at_74) rfl (XS.icmpNo X1.here hx rfl (hb hby at_76) rfl (teq (own_same ch : own_ws ch = own_ex ch)).2 (XS.iconst X1.here hx rfl (hb hby at_79) (XS.goto X1.here hx rfl (pc0 := 80) (pc' := 84) rfl (hb hby at_80) (by decide) (by decide) k))))) ?_
    show Go p e below s _ _ _ T1 (mkF m 84 #[.val (.int p1), .val (.int p2), .val (.int lo), .val (.int ch), .val (.int (own_ex ch))] [(.int (1 : Int32))])
    exact Go.retN X1 hx hlk (t := .boolean) Bd.returns (by simp) (hb hby at_84) eq1 ⟨rfl, N2⟩ (by decide) (by decide)
  have J1 : ∀ (lo : Int32) (ch : Int32), Go p e below s (Q_law Z p1 p2 h0 n0) room_1.cells room_1.slots s₁ (mkF m 26 #[.val (.int p1), .val (.int p2), .val (.int lo), .unset, .unset] [(.int ch)]) := by
    intro lo ch
    refine Go.step (fun _ k => XS.istoreN X0.here hx rfl (hb hby at_26) rfl (l' := #[.val (.int p1), .val (.int p2), .val (.int lo), .val (.int ch), .unset]) rfl (XS.iloadN X0.here hx rfl (hb hby at_27) rfl (XS.bipush X0.here hx rfl (hb hby at_28) k))) ?_
    show Go p e below s _ _ _ s₁ (mkF m 30 #[.val (.int p1), .val (.int p2), .val (.int lo), .val (.int ch), .unset] [(.int (9 : Int32)), (.int ch)])
    by_cases k0 : ch = (9 : Int32)
    · refine Go.step (fun _ k => XS.icmpYes X0.here hx rfl (pc0 := 30) (pc' := 63) rfl (hb hby at_30) rfl (teq k0).1 (by decide) (by decide) (XS.iconst X0.here hx rfl (hb hby at_63) (XS.goto X0.here hx rfl (pc0 := 64) (pc' := 68) rfl (hb hby at_64) (by decide) (by decide) k))) ?_
      show Go p e below s _ _ _ s₁ (mkF m 68 #[.val (.int p1), .val (.int p2), .val (.int lo), .val (.int ch), .unset] [(.int (1 : Int32))])
      rw [show (1 : Int32) = own_ex ch from (by rw [own_ex, if_pos k0])]
      exact J2 lo ch
    · refine Go.step (fun _ k => XS.icmpNo X0.here hx rfl (hb hby at_30) rfl (feq k0).1 (XS.iloadN X0.here hx rfl (hb hby at_33) rfl (XS.bipush X0.here hx rfl (hb hby at_34) k))) ?_
      show Go p e below s _ _ _ s₁ (mkF m 36 #[.val (.int p1), .val (.int p2), .val (.int lo), .val (.int ch), .unset] [(.int (10 : Int32)), (.int ch)])
      by_cases k1 : ch = (10 : Int32)
      · refine Go.step (fun _ k => XS.icmpYes X0.here hx rfl (pc0 := 36) (pc' := 63) rfl (hb hby at_36) rfl (teq k1).1 (by decide) (by decide) (XS.iconst X0.here hx rfl (hb hby at_63) (XS.goto X0.here hx rfl (pc0 := 64) (pc' := 68) rfl (hb hby at_64) (by decide) (by decide) k))) ?_
        show Go p e below s _ _ _ s₁ (mkF m 68 #[.val (.int p1), .val (.int p2), .val (.int lo), .val (.int ch), .unset] [(.int (1 : Int32))])
        rw [show (1 : Int32) = own_ex ch from (by rw [own_ex, if_neg k0, if_pos k1])]
        exact J2 lo ch
      · refine Go.step (fun _ k => XS.icmpNo X0.here hx rfl (hb hby at_36) rfl (feq k1).1 (XS.iloadN X0.here hx rfl (hb hby at_39) rfl (XS.bipush X0.here hx rfl (hb hby at_40) k))) ?_
        show Go p e below s _ _ _ s₁ (mkF m 42 #[.val (.int p1), .val (.int p2), .val (.int lo), .val (.int ch), .unset] [(.int (11 : Int32)), (.int ch)])
        by_cases k2 : ch = (11 : Int32)
        · refine Go.step (fun _ k => XS.icmpYes X0.here hx rfl (pc0 := 42) (pc' := 63) rfl (hb hby at_42) rfl (teq k2).1 (by decide) (by decide) (XS.iconst X0.here hx rfl (hb hby at_63) (XS.goto X0.here hx rfl (pc0 := 64) (pc' := 68) rfl (hb hby at_64) (by decide) (by decide) k))) ?_
          show Go p e below s _ _ _ s₁ (mkF m 68 #[.val (.int p1), .val (.int p2), .val (.int lo), .val (.int ch), .unset] [(.int (1 : Int32))])
          rw [show (1 : Int32) = own_ex ch from (by rw [own_ex, if_neg k0, if_neg k1, if_pos k2])]
          exact J2 lo ch
        · refine Go.step (fun _ k => XS.icmpNo X0.here hx rfl (hb hby at_42) rfl (feq k2).1 (XS.iloadN X0.here hx rfl (hb hby at_45) rfl (XS.bipush X0.here hx rfl (hb hby at_46) k))) ?_
          show Go p e below s _ _ _ s₁ (mkF m 48 #[.val (.int p1), .val (.int p2), .val (.int lo), .val (.int ch), .unset] [(.int (12 : Int32)), (.int ch)])
          by_cases k3 : ch = (12 : Int32)
          · refine Go.step (fun _ k => XS.icmpYes X0.here hx rfl (pc0 := 48) (pc' := 63) rfl (hb hby at_48) rfl (teq k3).1 (by decide) (by decide) (XS.iconst X0.here hx rfl (hb hby at_63) (XS.goto X0.here hx rfl (pc0 := 64) (pc' := 68) rfl (hb hby at_64) (by decide) (by decide) k))) ?_
            show Go p e below s _ _ _ s₁ (mkF m 68 #[.val (.int p1), .val (.int p2), .val (.int lo), .val (.int ch), .unset] [(.int (1 : Int32))])
            rw [show (1 : Int32) = own_ex ch from (by rw [own_ex, if_neg k0, if_neg k1, if_neg k2, if_pos k3])]
            exact J2 lo ch
          · refine Go.step (fun _ k => XS.icmpNo X0.here hx rfl (hb hby at_48) rfl (feq k3).1 (XS.iloadN X0.here hx rfl (hb hby at_51) rfl (XS.bipush X0.here hx rfl (hb hby at_52) k))) ?_
            show Go p e below s _ _ _ s₁ (mkF m 54 #[.val (.int p1), .val (.int p2), .val (.int lo), .val (.int ch), .unset] [(.int (13 : Int32)), (.int ch)])
            by_cases k4 : ch = (13 : Int32)
            · refine Go.step (fun _ k => XS.icmpYes X0.here hx rfl (pc0 := 54) (pc' := 63) rfl (hb hby at_54) rfl (teq k4).1 (by decide) (by decide) (XS.iconst X0.here hx rfl (hb hby at_63) (XS.goto X0.here hx rfl (pc0 := 64) (pc' := 68) rfl (hb hby at_64) (by decide) (by decide) k))) ?_
              show Go p e below s _ _ _ s₁ (mkF m 68 #[.val (.int p1), .val (.int p2), .val (.int lo), .val (.int ch), .unset] [(.int (1 : Int32))])
              rw [show (1 : Int32) = own_ex ch from (by rw [own_ex, if_neg k0, if_neg k1, if_neg k2, if_neg k3, if_pos k4])]
              exact J2 lo ch
            · refine Go.step (fun _ k => XS.icmpNo X0.here hx rfl (hb hby at_54) rfl (feq k4).1 (XS.iloadN X0.here hx rfl (hb hby at_57) rfl (XS.bipush X0.here hx rfl (hb hby at_58) k))) ?_
              show Go p e below s _ _ _ s₁ (mkF m 60 #[.val (.int p1), .val (.int p2), .val (.int lo), .val (.int ch), .unset] [(.int (32 : Int32)), (.int ch)])
              by_cases k5 : ch = (32 : Int32)
              · refine Go.step (fun _ k => XS.icmpNo X0.here hx rfl (hb hby at_60) rfl (teq k5).2 (XS.iconst X0.here hx rfl (hb hby at_63) (XS.goto X0.here hx rfl (pc0 := 64) (pc' := 68) rfl (hb hby at_64) (by decide) (by decide) k))) ?_
                show Go p e below s _ _ _ s₁ (mkF m 68 #[.val (.int p1), .val (.int p2), .val (.int lo), .val (.int ch), .unset] [(.int (1 : Int32))])
                rw [show (1 : Int32) = own_ex ch from (by rw [own_ex, if_neg k0, if_neg k1, if_neg k2, if_neg k3, if_neg k4, if_pos k5])]
                exact J2 lo ch
              · refine Go.step (fun _ k => XS.icmpYes X0.here hx rfl (pc0 := 60) (pc' := 67) rfl (hb hby at_60) rfl (feq k5).2 (by decide) (by decide) (XS.iconst X0.here hx rfl (hb hby at_67) k)) ?_
                show Go p e below s _ _ _ s₁ (mkF m 68 #[.val (.int p1), .val (.int p2), .val (.int lo), .val (.int ch), .unset] [(.int (0 : Int32))])
                rw [show (0 : Int32) = own_ex ch from (by rw [own_ex, if_neg k0, if_neg k1, if_neg k2, if_neg k3, if_neg k4, if_neg k5])]
                exact J2 lo ch
  refine Go.step (fun _ k => XS.iloadN X0.here hx rfl (hb hby at_0) rfl (XS.iconst X0.here hx rfl (hb hby at_1) (XS.iand X0.here hx rfl (hb hby at_2) rfl k))) ?_
  show Go p e below s _ _ _ s₁ (mkF m 3 #[.val (.int p1), .val (.int p2), .unset, .unset, .unset] [(.int (p2 &&& (1 : Int32)))])
  by_cases a1 : (p2 &&& (1 : Int32)) = (0 : Int32)
  · refine Go.step (fun _ k => XS.ifYes X0.here hx rfl (pc0 := 3) (pc' := 10) rfl (hb hby at_3) rfl ((if0 _ _).trans (teq a1).1) (by decide) (by decide) (XS.iconst X0.here hx rfl (hb hby at_10) (XS.istoreN X0.here hx rfl (hb hby at_11) rfl (l' := #[.val (.int p1), .val (.int p2), .val (.int (0 : Int32)), .unset, .unset]) rfl (XS.iloadN X0.here hx rfl (hb hby at_12) rfl (XS.ifYes X0.here hx rfl (pc0 := 13) (pc' := 24) rfl (hb hby at_13) rfl ((if0 _ _).trans (teq (rfl : (0 : Int32) = 0)).1) (by decide) (by decide) (XS.iloadN X0.here hx rfl (hb hby at_24) rfl (XS.i2c X0.here hx rfl (hb hby at_25) rfl k))))))) ?_
    show Go p e below s _ _ _ s₁ (mkF m 26 #[.val (.int p1), .val (.int p2), .val (.int (0 : Int32)), .unset, .unset] [(.int (p1.toUInt32.toUInt16.toUInt32.toInt32))])
    exact J1 (0 : Int32) (p1.toUInt32.toUInt16.toUInt32.toInt32)
  · refine Go.step (fun _ k => XS.ifNo X0.here hx rfl (hb hby at_3) rfl ((if0 _ _).trans (feq a1).1) (XS.iconst X0.here hx rfl (hb hby at_6) (XS.goto X0.here hx rfl (pc0 := 7) (pc' := 11) rfl (hb hby at_7) (by decide) (by decide) (XS.istoreN X0.here hx rfl (hb hby at_11) rfl (l' := #[.val (.int p1), .val (.int p2), .val (.int (1 : Int32)), .unset, .unset]) rfl (XS.iloadN X0.here hx rfl (hb hby at_12) rfl (XS.ifNo X0.here hx rfl (hb hby at_13) rfl ((if0 _ _).trans (feq (by decide : ¬ (1 : Int32) = 0)).1) (XS.iloadN X0.here hx rfl (hb hby at_16) rfl (XS.bipush X0.here hx rfl (hb hby at_17) (XS.iand X0.here hx rfl (hb hby at_19) rfl (XS.i2c X0.here hx rfl (hb hby at_20) rfl k)))))))))) ?_
    show Go p e below s _ _ _ s₁ (mkF m 21 #[.val (.int p1), .val (.int p2), .val (.int (1 : Int32)), .unset, .unset] [(.int ((p1 &&& (63 : Int32)).toUInt32.toUInt16.toUInt32.toInt32))])
    refine Go.step (fun _ k => XS.goto X0.here hx rfl (pc0 := 21) (pc' := 26) rfl (hb hby at_21) (by decide) (by decide) k) ?_
    show Go p e below s _ _ _ s₁ (mkF m 26 #[.val (.int p1), .val (.int p2), .val (.int (1 : Int32)), .unset, .unset] [(.int ((p1 &&& (63 : Int32)).toUInt32.toUInt16.toUInt32.toInt32))])
    exact J1 (1 : Int32) ((p1 &&& (63 : Int32)).toUInt32.toUInt16.toUInt32.toInt32)

set_option maxRecDepth 65536 in
set_option maxHeartbeats 40000000 in
theorem comes_1 {Post : Tables → Env → Array Value → State → Outcome → State → Prop} (hpost : ∀ tb e args s v u, (limb_1_1.after args s (.returned v) u = true ∧ limb_1_2.after args s (.returned v) u = true ∧ True) → FrameEnd s (.returned v) u (Jvm.fieldLocs frame_1_writes args s ++ Jvm.arrayLocs frame_1_arrays args s ++ Jvm.staticLocs frame_1_statics s) 0 0 → Post tb e args s (.returned v) u) :
    ArmFor flags0 classFile x code maxLocals ret World_1 tables_1 room_1 Calls_1 rest_1 Pre_1 Post := by
  intro l hfl _ _ p e ha hc hk s m args below hf hA hF happ hP
  obtain ⟨hcalls, hrest, hpre⟩ := hP
  obtain ⟨-, -, -, hnamed, -, -, -, hat⟩ := (Spec.applies_iff hf).mp happ
  obtain ⟨hg, hn⟩ := and_e (Cond.before_iff.mp (show (Jvm.Cond.and given_1 narrow_1).before args s = true from hpre))
  obtain ⟨gv1, gv2⟩ := and_e hg
  obtain ⟨gv3, gv4⟩ := and_e gv2
  obtain ⟨w0, w1, rfl⟩ : ∃ w0 w1 : Value, args = #[w0, w1] := by
    have hs : args.size = 2 := by simpa [Cond.value, given_1] using gv1
    obtain ⟨L⟩ := args
    match L, hs with
    | [w0, w1], _ => exact ⟨w0, w1, rfl⟩
  have hw := fun d (hd : d ∈ tables_1) => atoms_spec (ws := Jvm.Cond.code x code maxLocals ret :: tables_1) hat d (List.mem_cons_of_mem _ hd)
  have hfit : Fit s := fun {y c} hc i hi => by
    obtain ⟨ha, rfl⟩ := Array.getElem?_eq_some_iff.mp hc
    have q := List.all_eq_true.mp ((Array.all_eq_true_iff_forall_mem.mp hF) _ (Array.getElem_mem ha)) i (List.mem_range.mpr hi)
    simpa [Array.getElem?_eq_getElem hi] using q
  obtain ⟨i0, ei0⟩ := is_v gv3
  obtain rfl : w0 = (.int i0) := Option.some.inj ei0
  obtain ⟨i1, ei1⟩ := is_v gv4
  obtain rfl : w1 = (.int i1) := Option.some.inj ei1
  obtain ⟨n, o, h1, h2, h3, _, L, rfl, ⟨rfl, N⟩, hq⟩ := rm_law l s _ hw tables_1 i0 i1 s.heap s.heap.size (Nat.le_refl _)  p e ha hc hk s m _ below hf ((Spec.applies_iff_loose hf).mp happ).1 ⟨rfl, State.Warmed39.refl s, rfl⟩ trivial
  refine ⟨n, _, h1, h2, h3, hpost _ _ _ _ _ _ ⟨Cond.after_iff.mpr rfl, Cond.after_iff.mpr (eq_i res_at (Term.int_eval (1)) rfl), trivial⟩ ⟨hq.1, hq.2.1, (hq.2.2.sift fun y hy => Or.inr (N y hy)).mono (by decide) (by decide)⟩⟩
theorem main_1_1 : Claimed_1_1 := comes_1 fun _ _ _ _ _ _ h hF => ⟨h.1, hF⟩
theorem main_1_2 : Claimed_1_2 := comes_1 fun _ _ _ _ _ _ h hF => ⟨h.2.1, hF⟩
end Jvm.Pilot.@@N@@
namespace Jvm.Pilot.@@N@@
open Jvm Jvm.ClassFile Sem Op Lib Jvm.Free Jvm.Stand Jvm.Pilot.@@N@@.Jvm.D
/-! MADE BY PROGRAM (witnessworld.py) out of the Statement's table words and the real class files: 9 classes; the members and pool entries that the words name. The judged class is class 1, her method 1. -/
namespace start1
open Jvm.ClassFile
def u (s : String) : CpInfo := .utf8 (stringToUtf16 s)
/-- a pool by its gaps: so many unusable entries, then the entry; so many at the end -/
def gap : Nat → List CpInfo → List CpInfo
  | 0, r => r
  | n + 1, r => .unusable :: gap n r
def poolList (es : List (Nat × CpInfo)) (last : Nat) : List CpInfo := es.foldr (fun e r => gap e.1 (e.2 :: r)) (gap last [])
def pool (es : List (Nat × CpInfo)) (last : Nat) : Array CpInfo := ⟨poolList es last⟩
def fileOf (pool : Array CpInfo) (this : Nat) (attrs : Array Attribute := #[]) (ms : Array MethodInfo := #[]) (fl : Nat := 33) (sup : Nat := 0) (ifs : Array Nat := #[]) (fds : Array FieldInfo := #[]) : ClassFile where
  minorVersion := 0
  majorVersion := 65
  constantPool := pool
  accessFlags := fl
  thisClass := this
  superClass := sup
  interfaces := ifs
  fields := fds
  methods := ms
  attributes := attrs
def plain (name : String) (sup : Option ClassId) : Class where
  name := name
  kind := .ordinary
  loader := none
  accessFlags := 33
  super := sup
  interfaces := #[]
  cf := none
  fields := #[]
  methods := #[]
  instanceTypes := #[]
  staticTypes := #[]
  resolved := #[]
  callSites := []
  init := .initialized
  statics := none
  mirror := none

def pool0 : Array CpInfo := pool [(5, u "<init>"), (0, u "()V"), (1, .class_ 10), (1, u "java/lang/Object")] 113

def k0m0 : Method := { name := "<init>", desc := "()V", sig := { parameters := [], returnType := none }, accessFlags := 1, code := none }
/-- java/lang/Object -/
def k0 : Class := { plain "java/lang/Object" none with
  accessFlags := 33
  interfaces := #[]
  cf := some (fileOf pool0 8 #[] #[{ accessFlags := 1, nameIndex := 5, descriptorIndex := 6, attributes := #[] }] 33 0 #[] #[])
  fields := #[]
  methods := #[k0m0]
  instanceTypes := #[]
  staticTypes := #[]
  resolved := Array.replicate 124 none
  statics := none }

def pool1 : Array CpInfo := pool [(2, .class_ 4), (1, u "java/lang/Object"), (0, u "<init>"), (0, u "()V"), (0, .methodref 8 9), (0, .class_ 10), (0, .nameAndType 11 12), (0, u "com/example/vaatimus/vaatimus/rules/ValueChecks"), (0, u "whitespace"), (0, u "(C)Z"), (0, .class_ 14), (0, u "com/example/vaatimus/vaatimus/rules/ValueChecksWhitespacePinLaw"), (2, u "law"), (0, u "(II)Z")] 3

def k1m0 : Method := { name := "<init>", desc := "()V", sig := { parameters := [], returnType := none }, accessFlags := 2, code := none }
def k1c1 : Code := { maxStack := 2, maxLocals := 5, code := code, exceptionTable := #[], attributes := #[] }
def k1m1 : Method := { name := "law", desc := "(II)Z", sig := { parameters := [.int, .int], returnType := some .boolean }, accessFlags := 9, code := some k1c1 }
/-- com/example/vaatimus/vaatimus/rules/ValueChecksWhitespacePinLaw -/
def k1 : Class := { plain "com/example/vaatimus/vaatimus/rules/ValueChecksWhitespacePinLaw" (some 0) with
  accessFlags := 49
  interfaces := #[]
  cf := some (fileOf pool1 13 #[] #[{ accessFlags := 2, nameIndex := 5, descriptorIndex := 6, attributes := #[] }, { accessFlags := 9, nameIndex := 17, descriptorIndex := 18, attributes := #[] }] 49 2 #[] #[])
  fields := #[]
  methods := #[k1m0, k1m1]
  instanceTypes := #[]
  staticTypes := #[]
  resolved := Array.replicate 22 none
  statics := none }

def pool2 : Array CpInfo := pool [(2, .class_ 4), (1, u "java/lang/Object"), (0, u "<init>"), (0, u "()V"), (0, .class_ 8), (0, u "com/example/vaatimus/vaatimus/rules/ValueChecks$Matching"), (36, .class_ 47), (1, u "com/example/vaatimus/vaatimus/rules/ValueChecks"), (0, u "whitespace"), (0, u "(C)Z"), (66, u "SIGNING_TAGS"), (0, u "Ljava/util/Set;"), (10, u "DATE_SHAPE"), (0, u "Ljava/util/regex/Pattern;")] 244

def k2m0 : Method := { name := "<init>", desc := "()V", sig := { parameters := [], returnType := none }, accessFlags := 2, code := none }
def k2c1 : Code := { maxStack := 2, maxLocals := 1, code := prog_58_method_6_code, exceptionTable := #[], attributes := #[] }
def k2m1 : Method := { name := "whitespace", desc := "(C)Z", sig := { parameters := [.char], returnType := some .boolean }, accessFlags := 8, code := some k2c1 }
/-- com/example/vaatimus/vaatimus/rules/ValueChecks -/
def k2 : Class := { plain "com/example/vaatimus/vaatimus/rules/ValueChecks" (some 0) with
  accessFlags := 49
  interfaces := #[]
  cf := some (fileOf pool2 45 #[.nestMembers #[7]] #[{ accessFlags := 2, nameIndex := 5, descriptorIndex := 6, attributes := #[] }, { accessFlags := 8, nameIndex := 48, descriptorIndex := 49, attributes := #[] }] 49 2 #[] #[{ accessFlags := 26, nameIndex := 116, descriptorIndex := 117, attributes := #[] }, { accessFlags := 26, nameIndex := 128, descriptorIndex := 129, attributes := #[] }])
  fields := #[{ name := "SIGNING_TAGS", type := (.object "java/util/Set"), accessFlags := 26, slot := 0, constantValue := 0 }, { name := "DATE_SHAPE", type := (.object "java/util/regex/Pattern"), accessFlags := 26, slot := 1, constantValue := 0 }]
  methods := #[k2m0, k2m1]
  instanceTypes := #[]
  staticTypes := #[(.object "java/util/Set"), (.object "java/util/regex/Pattern")]
  resolved := Array.replicate 374 none
  statics := none }

def pool3 : Array CpInfo := pool [(1, u "java/lang/Cloneable"), (0, .class_ 1), (0, u "java/lang/Object"), (0, .class_ 3)] 3

/-- java/lang/Cloneable -/
def k3 : Class := { plain "java/lang/Cloneable" (some 0) with
  accessFlags := 1537
  interfaces := #[]
  cf := some (fileOf pool3 2 #[] #[] 1537 4 #[] #[])
  fields := #[]
  methods := #[]
  instanceTypes := #[]
  staticTypes := #[]
  resolved := Array.replicate 8 none
  statics := none }

def pool4 : Array CpInfo := pool [(1, u "java/io/Serializable"), (0, .class_ 1), (0, u "java/lang/Object"), (0, .class_ 3)] 3

/-- java/io/Serializable -/
def k4 : Class := { plain "java/io/Serializable" (some 0) with
  accessFlags := 1537
  interfaces := #[]
  cf := some (fileOf pool4 2 #[] #[] 1537 4 #[] #[])
  fields := #[]
  methods := #[]
  instanceTypes := #[]
  staticTypes := #[]
  resolved := Array.replicate 8 none
  statics := none }

/-- the primitive byte -/
def k5 : Class := { plain "byte" none with kind := .primitive 'B', accessFlags := 0x411 }
/-- [B -/
def k6 : Class := { plain "[B" (some 0) with kind := .array 5 .byte, interfaces := #[3, 4], accessFlags := 1041 }

/-- the primitive int -/
def k7 : Class := { plain "int" none with kind := .primitive 'I', accessFlags := 0x411 }
/-- [I -/
def k8 : Class := { plain "[I" (some 0) with kind := .array 7 .int, interfaces := #[3, 4], accessFlags := 1041 }

def heap : Heap := #[]
def classes : Array Class := #[k0, k1, k2, k3, k4, k5, k6, k7, k8]
def interned : List (Array UInt16 × Addr) := []
def slotsUsed : Nat := 0
def theMethod : MethodId := ⟨1, 1⟩
def args0 : Array Value := #[.int 5, .int 3]
def aboutOver (below : List Frame) : State where
  vm := { classes := classes, interned := interned.toArray }
  heap := heap
  slotsUsed := slotsUsed
  threads := #[{ frames := .invoking theMethod args0 :: below }]
def below0 : List Frame := [.native { method := ⟨0, 0⟩, args := #[] }]
def about1 : State := aboutOver below0
def p0 : Program := .bare "" "" ""
def e0 : Env := launch0.env 0 0 0
theorem w_frames : about1.frames = Frame.invoking theMethod args0 :: below0 := rfl
set_option maxRecDepth 65536 in
theorem w_args : argsFit about1.vm theMethod args0 = true := by decide +kernel
set_option maxRecDepth 65536 in
theorem w_heap : heapFits about1 = true := by decide +kernel
set_option maxRecDepth 65536 in
theorem w_runnable : about1.curStatus? = some .runnable := by decide +kernel
set_option maxRecDepth 65536 in
theorem w_alone : about1.alone = true := by decide +kernel
set_option maxRecDepth 65536 in
theorem w_named : about1.methodNamed? x = some theMethod := by decide +kernel
set_option maxRecDepth 65536 in
theorem w_hears : about1.hears theMethod below0 = true := by decide +kernel
set_option maxRecDepth 65536 in
theorem w_ripe : about1.ripe theMethod args0 below0 = true := by decide +kernel
theorem w_running : about1.status = .running := rfl
set_option maxRecDepth 65536 in
theorem w_room : about1.hasRoom e0.platform room_1 = true :=
  launch0.hasRoom_least _ room_1 (by decide +kernel) (by decide +kernel) (by decide +kernel) (by decide +kernel) (by decide +kernel) (by decide +kernel)
theorem allAtoms_all (ts : List Jvm.Cond) (a : Array Jvm.Value) (st : Jvm.State) : (allAtoms ts).before a st = ts.all (fun c => c.before a st) := by
  induction ts with
  | nil => rfl
  | cons c t ih =>
    show (Jvm.Cond.and c (allAtoms t)).before a st = _
    rw [Jvm.Cond.before_and, ih, List.all_cons]
def words1 : List Jvm.Cond := Jvm.Cond.code x code maxLocals ret :: tables_1
/-- a 'code' word, met by the world's own term for the bytes: nothing is compared byte by byte -/
theorem code_word {y : MethodName} {bytes : ByteArray} {mx : Nat} {rt : Option FieldType} {a : Array Value} {s : State} {m : MethodId} {meth : Method} {c : Code} (h1 : s.methodNamed? y = some m) (h2 : s.vm.method? m = some meth) (h3 : meth.code = some c) (h4 : c.code = bytes)
    (h5 : (c.maxLocals == mx && c.exceptionTable.isEmpty && decide (c.maxStack ≤ mostOperands) && decide (meth.sig.returnType = rt) && !meth.locks && decide (parseMethodDescriptor y.desc = some meth.sig)) = true) : (Jvm.Cond.code y bytes mx rt).before a s = true := by
  simp only [Bool.and_eq_true, beq_iff_eq, Bool.not_eq_true', decide_eq_true_eq] at h5
  obtain ⟨⟨⟨⟨⟨g1, g2⟩, g3⟩, g4⟩, g5⟩, g6⟩ := h5
  simp [Cond.before, Cond.holds, Cond.value, h1, h2, h3, h4, g1, g2, g3, g4, g5, g6]
def isCode : Jvm.Cond → Bool
  | .code _ _ _ _ => true
  | _ => false
theorem all_split {L : List Jvm.Cond} {P : Jvm.Cond → Bool} (h1 : L.all (fun c => isCode c || P c) = true) (h2 : ∀ c ∈ L.filter isCode, P c = true) : L.all P = true := by
  refine List.all_eq_true.mpr fun c hc => ?_
  have h := List.all_eq_true.mp h1 c hc
  rcases Bool.eq_false_or_eq_true (isCode c) with hi | hi
  · exact h2 c (List.mem_filter.mpr ⟨hc, hi⟩)
  · simpa [hi] using h
set_option maxRecDepth 65536 in
theorem w_c0 : (Jvm.Cond.code x code maxLocals ret).before args0 about1 = true := code_word (m := ⟨1, 1⟩) (meth := k1m1) (c := k1c1) (by decide +kernel) rfl rfl rfl (by decide +kernel)
set_option maxRecDepth 65536 in
theorem w_c1 : (Jvm.Cond.code ({ cls := "com/example/vaatimus/vaatimus/rules/ValueChecks", name := "whitespace", desc := "(C)Z" } : Jvm.MethodName) prog_58_method_6_code (1 : Nat) (Option.some Jvm.ClassFile.FieldType.boolean)).before args0 about1 = true := code_word (m := ⟨2, 1⟩) (meth := k2m1) (c := k2c1) (by decide +kernel) rfl rfl rfl (by decide +kernel)
def codes1 : List Jvm.Cond := [Jvm.Cond.code x code maxLocals ret, Jvm.Cond.code ({ cls := "com/example/vaatimus/vaatimus/rules/ValueChecks", name := "whitespace", desc := "(C)Z" } : Jvm.MethodName) prog_58_method_6_code (1 : Nat) (Option.some Jvm.ClassFile.FieldType.boolean)]
set_option maxRecDepth 65536 in
theorem codes_eq : words1.filter isCode = codes1 := rfl
theorem w_codes : ∀ c ∈ words1.filter isCode, c.before args0 about1 = true := by
  rw [codes_eq]
  intro c hc
  simp only [codes1, List.mem_cons, List.not_mem_nil, or_false] at hc
  rcases hc with rfl | rfl
  · exact w_c0
  · exact w_c1
set_option maxRecDepth 65536 in
theorem w_t1 : words1.all (fun c => isCode c || c.before args0 about1) = true := by decide +kernel
theorem w_tables : (allAtoms (Jvm.Cond.code x code maxLocals ret :: tables_1)).before args0 about1 = true := by
  rw [allAtoms_all]
  show words1.all (fun c => c.before args0 about1) = true
  refine all_split ?_ w_codes
  rw [w_t1]
set_option maxRecDepth 65536 in
theorem w_case : (Jvm.Cond.and given_1 narrow_1).before args0 about1 = true := by decide +kernel
theorem w_applies : (headSpec (Jvm.Cond.code x code maxLocals ret :: tables_1) room_1).applies x e0.platform about1 = true :=
  (Spec.applies_iff w_frames).mpr ⟨w_running, w_runnable, w_alone, w_named, w_hears, w_ripe, w_room, w_tables⟩
theorem atStart : AtStart classFile x code maxLocals ret World_1 tables_1 room_1 Calls_1 rest_1 Pre_1 launch0 p0 e0 about1 theMethod args0 below0 :=
  ⟨lists_1, trivial, launch0.admits_env _ _ _, launch0.least_env, fairChoices_fair.cas, fairChoices_fair.clock, w_frames, w_args, w_heap, w_applies, trivial, trivial, w_case⟩
end start1
theorem witness_1 : WitnessClaimed_1 := ⟨start1.p0, start1.e0, start1.about1, start1.theMethod, start1.args0, start1.below0, start1.atStart⟩
end Jvm.Pilot.@@N@@
