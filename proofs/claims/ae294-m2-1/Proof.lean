import JvmDerived
import JvmDerived.Pilot.@@N@@Statement
import JvmDerived.Pilot.@@N@@Code
set_option linter.unusedVariables false
set_option linter.unusedSimpArgs false
namespace Jvm.RoadKit
open Sem ClassFile Op Lib Jvm.Stand Jvm.Free Jvm.LawKit
section New
variable {p : Program} {l : Launch} {e : Env} {R : Room} {s : State} {m : MethodId} {args : Array Value} {below : List Frame} {meth : Method} {c : Code} {T T' : State} {locs : List Loc} {cells slots : Nat}
theorem retI (X : Stand p l e R s m args below meth c T locs cells slots) (hx : p.tables.exec = Jvm.exec) {pc : Nat} {Ls : Array Slot} {z : Int32} {rest : List Value} (hret : meth.sig.returnType = some .int) (hd : decode c.code pc = .ok (.ireturn, 1)) {fs : List Frame}
    (hl : ∀ (f : JFrame) (acts : List Action), f.method = m → f.locked = none → f.entered = [] → (doReturn e (T.setTop f) acts (some (.int z))).1 = T.setFrames fs) : Steps p.tables e below (T.setTop (mkF m pc Ls (.int z :: rest))) (T.setFrames fs) := by
  have hm' : T.vm.method? m = some meth := X.method'
  have hn : narrow .int (.int z) = .int z := rfl
  show Steps p.tables e below (T.setTop { method := m, pc := pc, locals := Ls, stack := _ :: rest, locked := none }) _
  jvm_step X.here [X.here.top, hx, hd, hm', hret, hn]
  first | (intro acts; rw [hl _ acts rfl rfl rfl]) | rw [hl _ _ rfl rfl rfl]
  exact Steps.refl _
/-- from here the run comes to its return, and Q holds of what it returns, of the heap and of what it wrote -/
def Go (p : Program) (e : Env) (below : List Frame) (s : State) (Q : Option Value → Heap → List Loc → Prop) (kc ks : Nat) (T : State) (g : JFrame) : Prop :=
  ∃ s₂ o, Steps p.tables e below (T.setTop g) s₂ ∧ s₂.status = .running ∧ Ended s₂ below o ∧ ∃ v L, o = .returned v ∧ Q v s₂.heap L ∧ FrameEnd s o s₂ L kc ks
variable {Q : Option Value → Heap → List Loc → Prop} {kc ks : Nat} {g g' : JFrame}
theorem Go.step (h : ∀ t, Steps p.tables e below (T'.setTop g') t → Steps p.tables e below (T.setTop g) t) (k : Go p e below s Q kc ks T' g') : Go p e below s Q kc ks T g := by
  obtain ⟨s₂, o, h1, r⟩ := k
  exact ⟨s₂, o, h _ h1, r⟩
theorem Go.cast (q : g = g') (k : Go p e below s Q kc ks T g') : Go p e below s Q kc ks T g := q ▸ k
theorem Go.done (X : Stand p l e R s m args below meth c T locs cells slots) (hlocks : meth.locks = false) {v : Option Value} (hv : meth.sig.returnType = none → v = none)
    (hret : ∀ fs, (∀ (f : JFrame) (acts : List Action), f.method = m → f.locked = none → f.entered = [] → (doReturn e (T.setTop f) acts v).1 = T.setFrames fs) → Steps p.tables e below (T.setTop g) (T.setFrames fs))
    {h : Heap} (eT : T.heap = h) (hQ : Q v h locs) (hc : cells ≤ kc) (hs : slots ≤ ks) : Go p e below s Q kc ks T g := by
  obtain ⟨fs, hr, hrun, hended, hW, hsame⟩ := X.leave hv hlocks
  refine ⟨_, _, hret fs hr, hrun, hended, _, _, rfl, ?_, ⟨_, rfl⟩, hW, hsame.mono hc hs⟩
  show Q v T.heap locs
  rw [eT]
  exact hQ
theorem Go.retV (X : Stand p l e R s m args below meth c T locs cells slots) (hx : p.tables.exec = Jvm.exec) (hlocks : meth.locks = false) (hr : meth.sig.returnType = none) {pc : Nat} {Ls : Array Slot} (hd : decode c.code pc = .ok (.return_, 1))
    {h : Heap} (eT : T.heap = h) (hQ : Q none h locs) (hc : cells ≤ kc) (hs : slots ≤ ks) : Go p e below s Q kc ks T (mkF m pc Ls []) :=
  Go.done X hlocks (fun _ => rfl) (fun fs k => X.returnOut hx hr hd k) eT hQ hc hs
theorem Go.retN (X : Stand p l e R s m args below meth c T locs cells slots) (hx : p.tables.exec = Jvm.exec) (hlocks : meth.locks = false) {t : FieldType} (hr : meth.sig.returnType = some t) (ht : t = .boolean ∨ t = .byte ∨ t = .char ∨ t = .short) {pc : Nat} {Ls : Array Slot} {z : Int32} {st : List Value} (hd : decode c.code pc = .ok (.ireturn, 1))
    {h : Heap} (eT : T.heap = h) (hQ : Q (some (.int (nar t z))) h locs) (hc : cells ≤ kc) (hs : slots ≤ ks) : Go p e below s Q kc ks T (mkF m pc Ls (.int z :: st)) :=
  Go.done X hlocks (fun q => by rw [hr] at q; cases q) (fun fs k => Jvm.RoadKit.retN X hx hr ht hd k) eT hQ hc hs
theorem Go.retI (X : Stand p l e R s m args below meth c T locs cells slots) (hx : p.tables.exec = Jvm.exec) (hlocks : meth.locks = false) (hr : meth.sig.returnType = some .int) {pc : Nat} {Ls : Array Slot} {z : Int32} {st : List Value} (hd : decode c.code pc = .ok (.ireturn, 1))
    {h : Heap} (eT : T.heap = h) (hQ : Q (some (.int z)) h locs) (hc : cells ≤ kc) (hs : slots ≤ ks) : Go p e below s Q kc ks T (mkF m pc Ls (.int z :: st)) :=
  Go.done X hlocks (fun q => by rw [hr] at q; cases q) (fun fs k => Jvm.RoadKit.retI X hx hr hd k) eT hQ hc hs
theorem Go.retJ (X : Stand p l e R s m args below meth c T locs cells slots) (hx : p.tables.exec = Jvm.exec) (hlocks : meth.locks = false) (hr : meth.sig.returnType = some .long) {pc : Nat} {Ls : Array Slot} {z : Int64} {st : List Value} (hd : decode c.code pc = .ok (.lreturn, 1))
    {h : Heap} (eT : T.heap = h) (hQ : Q (some (.long z)) h locs) (hc : cells ≤ kc) (hs : slots ≤ ks) : Go p e below s Q kc ks T (mkF m pc Ls (.long z :: st)) :=
  Go.done X hlocks (fun q => by rw [hr] at q; cases q) (fun fs k => retOut X hx hr rfl (Or.inr (Or.inl ⟨rfl, rfl, _, rfl⟩)) hd k) eT hQ hc hs
theorem Go.retA (X : Stand p l e R s m args below meth c T locs cells slots) (hx : p.tables.exec = Jvm.exec) (hlocks : meth.locks = false) {t : FieldType} (hr : meth.sig.returnType = some t) (ht : t.isReference = true) {w : Value} (hw : w.isRef = true) {pc : Nat} {Ls : Array Slot} {st : List Value} (hd : decode c.code pc = .ok (.areturn, 1))
    {h : Heap} (eT : T.heap = h) (hQ : Q (some w) h locs) (hc : cells ≤ kc) (hs : slots ≤ ks) : Go p e below s Q kc ks T (mkF m pc Ls (w :: st)) :=
  Go.done X hlocks (fun q => by rw [hr] at q; cases q) (fun fs k => retOut X hx hr (by cases t <;> first | (cases ht; done) | (rcases ref_cases hw with rfl | ⟨a, rfl⟩ <;> rfl)) (Or.inr (Or.inr (Or.inr (Or.inr ⟨rfl, ht, hw⟩)))) hd k) eT hQ hc hs
end New
end Jvm.RoadKit
namespace Jvm.Pilot.@@N@@
open Jvm Jvm.ClassFile Sem Op Lib Jvm.Free Jvm.Stand Jvm.LawKit Jvm.RoadKit Bundle Jvm.Pilot.@@N@@.Jvm.D
def own_b (P : Prop) [Decidable P] : Int32 := if P then 1 else 0
def own_one (x : Int32) : Int32 := if x = (0 : Int32) then 0 else 1
theorem own_tri (a r : Int64) : (a = r ∧ ¬ a < r ∧ ¬ r < a) ∨ (¬ a = r ∧ a < r ∧ ¬ r < a) ∨ (¬ a = r ∧ ¬ a < r ∧ r < a) := by
  simp only [Int64.lt_iff_toInt_lt, ← Int64.toInt_inj]
  omega
theorem own_xor (a r : Int64) : (a ^^^ r = (0 : Int64)) ↔ a = r := by
  rw [← Int64.toBitVec_inj, ← Int64.toBitVec_inj, Int64.toBitVec_xor]
  exact BitVec.xor_eq_zero_iff
theorem own_sgn (a : Int64) : ((a.toUInt64 >>> ((63 : Int32) &&& 0x3f).toInt64.toUInt64).toInt64).toInt = (if a.toInt < 0 then 1 else 0) := by
  rw [c_lushr a 63 63 (by decide) (by decide)]
  have := rng64 a
  split <;> omega
theorem own_sgn1 (a : Int64) : ((a.toUInt64 >>> ((63 : Int32) &&& 0x3f).toInt64.toUInt64).toInt64) = (1 : Int64) ↔ a.toInt < 0 := by
  rw [← Int64.toInt_inj, own_sgn]
  show (if a.toInt < 0 then (1 : Int) else 0) = 1 ↔ _
  split <;> omega
theorem own_sgnE (a b : Int64) : ((a.toUInt64 >>> ((63 : Int32) &&& 0x3f).toInt64.toUInt64).toInt64) = ((b.toUInt64 >>> ((63 : Int32) &&& 0x3f).toInt64.toUInt64).toInt64) ↔ (a.toInt < 0 ↔ b.toInt < 0) := by
  rw [← Int64.toInt_inj, own_sgn, own_sgn]
  split <;> split <;> omega
theorem own_lr1 (a b : Int64) (h : ¬ (a.toInt < 0 ↔ b.toInt < 0)) (k : a.toInt < 0) : a < b := by rw [Int64.lt_iff_toInt_lt]; omega
theorem own_lr2 (a b : Int64) (h : ¬ (a.toInt < 0 ↔ b.toInt < 0)) (k : ¬ a.toInt < 0) : ¬ a < b := by rw [Int64.lt_iff_toInt_lt]; omega
theorem own_lr3 (a b : Int64) (h : a.toInt < 0 ↔ b.toInt < 0) : (a - b).toInt < 0 ↔ a < b := by
  rw [Int64.lt_iff_toInt_lt]
  have q := c_lsub a b
  have := rng64 a
  have := rng64 b
  have := rng64 (a - b)
  omega
theorem d0_0 : decode jdk_37_method_2_code 0 = .ok (.aload_n 0, 1) := by decide +kernel
theorem d0_1 : decode jdk_37_method_2_code 1 = .ok (.getfield 7, 3) := by decide +kernel
theorem d0_4 : decode jdk_37_method_2_code 4 = .ok (.ireturn, 1) := by decide +kernel
theorem d2_0 : decode method_2_code 0 = .ok (.lload_n 0, 1) := by decide +kernel
theorem d2_1 : decode method_2_code 1 = .ok (.bipush 63, 2) := by decide +kernel
theorem d2_3 : decode method_2_code 3 = .ok (.lushr, 1) := by decide +kernel
theorem d2_4 : decode method_2_code 4 = .ok (.lstore 4, 2) := by decide +kernel
theorem d2_6 : decode method_2_code 6 = .ok (.lload_n 2, 1) := by decide +kernel
theorem d2_7 : decode method_2_code 7 = .ok (.bipush 63, 2) := by decide +kernel
theorem d2_9 : decode method_2_code 9 = .ok (.lushr, 1) := by decide +kernel
theorem d2_10 : decode method_2_code 10 = .ok (.lstore 6, 2) := by decide +kernel
theorem d2_12 : decode method_2_code 12 = .ok (.lload 4, 2) := by decide +kernel
theorem d2_14 : decode method_2_code 14 = .ok (.lload 6, 2) := by decide +kernel
theorem d2_16 : decode method_2_code 16 = .ok (.lcmp, 1) := by decide +kernel
theorem d2_17 : decode method_2_code 17 = .ok (.ifCond .eq 16, 3) := by decide +kernel
theorem d2_20 : decode method_2_code 20 = .ok (.lload 4, 2) := by decide +kernel
theorem d2_22 : decode method_2_code 22 = .ok (.lconst 1, 1) := by decide +kernel
theorem d2_23 : decode method_2_code 23 = .ok (.lcmp, 1) := by decide +kernel
theorem d2_24 : decode method_2_code 24 = .ok (.ifCond .ne 7, 3) := by decide +kernel
theorem d2_27 : decode method_2_code 27 = .ok (.iconst 1, 1) := by decide +kernel
theorem d2_28 : decode method_2_code 28 = .ok (.goto 4, 3) := by decide +kernel
theorem d2_31 : decode method_2_code 31 = .ok (.iconst 0, 1) := by decide +kernel
theorem d2_32 : decode method_2_code 32 = .ok (.ireturn, 1) := by decide +kernel
theorem d2_33 : decode method_2_code 33 = .ok (.lload_n 0, 1) := by decide +kernel
theorem d2_34 : decode method_2_code 34 = .ok (.lload_n 2, 1) := by decide +kernel
theorem d2_35 : decode method_2_code 35 = .ok (.lsub, 1) := by decide +kernel
theorem d2_36 : decode method_2_code 36 = .ok (.bipush 63, 2) := by decide +kernel
theorem d2_38 : decode method_2_code 38 = .ok (.lushr, 1) := by decide +kernel
theorem d2_39 : decode method_2_code 39 = .ok (.lconst 1, 1) := by decide +kernel
theorem d2_40 : decode method_2_code 40 = .ok (.lcmp, 1) := by decide +kernel
theorem d2_41 : decode method_2_code 41 = .ok (.ifCond .ne 7, 3) := by decide +kernel
theorem d2_44 : decode method_2_code 44 = .ok (.iconst 1, 1) := by decide +kernel
theorem d2_45 : decode method_2_code 45 = .ok (.goto 4, 3) := by decide +kernel
theorem d2_48 : decode method_2_code 48 = .ok (.iconst 0, 1) := by decide +kernel
theorem d2_49 : decode method_2_code 49 = .ok (.ireturn, 1) := by decide +kernel
theorem d3_0 : decode method_3_code 0 = .ok (.iload_n 0, 1) := by decide +kernel
theorem d3_1 : decode method_3_code 1 = .ok (.ifCond .eq 7, 3) := by decide +kernel
theorem d3_4 : decode method_3_code 4 = .ok (.iconst 1, 1) := by decide +kernel
theorem d3_5 : decode method_3_code 5 = .ok (.goto 4, 3) := by decide +kernel
theorem d3_8 : decode method_3_code 8 = .ok (.iconst 0, 1) := by decide +kernel
theorem d3_9 : decode method_3_code 9 = .ok (.ireturn, 1) := by decide +kernel
theorem d1_0 : decode prog_72_method_5_code 0 = .ok (.aload_n 0, 1) := by decide +kernel
theorem d1_1 : decode prog_72_method_5_code 1 = .ok (.invokevirtual 45, 3) := by decide +kernel
theorem d1_4 : decode prog_72_method_5_code 4 = .ok (.tableswitch 40 0 5 #[50, 64, 78, 92, 106, 120], 40) := by decide +kernel
theorem d1_54 : decode prog_72_method_5_code 54 = .ok (.lload_n 1, 1) := by decide +kernel
theorem d1_55 : decode prog_72_method_5_code 55 = .ok (.lload_n 3, 1) := by decide +kernel
theorem d1_56 : decode prog_72_method_5_code 56 = .ok (.lcmp, 1) := by decide +kernel
theorem d1_57 : decode prog_72_method_5_code 57 = .ok (.ifCond .ne 7, 3) := by decide +kernel
theorem d1_60 : decode prog_72_method_5_code 60 = .ok (.iconst 1, 1) := by decide +kernel
theorem d1_61 : decode prog_72_method_5_code 61 = .ok (.goto 74, 3) := by decide +kernel
theorem d1_64 : decode prog_72_method_5_code 64 = .ok (.iconst 0, 1) := by decide +kernel
theorem d1_65 : decode prog_72_method_5_code 65 = .ok (.goto 70, 3) := by decide +kernel
theorem d1_68 : decode prog_72_method_5_code 68 = .ok (.lload_n 1, 1) := by decide +kernel
theorem d1_69 : decode prog_72_method_5_code 69 = .ok (.lload_n 3, 1) := by decide +kernel
theorem d1_70 : decode prog_72_method_5_code 70 = .ok (.lcmp, 1) := by decide +kernel
theorem d1_71 : decode prog_72_method_5_code 71 = .ok (.ifCond .eq 7, 3) := by decide +kernel
theorem d1_74 : decode prog_72_method_5_code 74 = .ok (.iconst 1, 1) := by decide +kernel
theorem d1_75 : decode prog_72_method_5_code 75 = .ok (.goto 60, 3) := by decide +kernel
theorem d1_78 : decode prog_72_method_5_code 78 = .ok (.iconst 0, 1) := by decide +kernel
theorem d1_79 : decode prog_72_method_5_code 79 = .ok (.goto 56, 3) := by decide +kernel
theorem d1_82 : decode prog_72_method_5_code 82 = .ok (.lload_n 1, 1) := by decide +kernel
theorem d1_83 : decode prog_72_method_5_code 83 = .ok (.lload_n 3, 1) := by decide +kernel
theorem d1_84 : decode prog_72_method_5_code 84 = .ok (.lcmp, 1) := by decide +kernel
theorem d1_85 : decode prog_72_method_5_code 85 = .ok (.ifCond .ge 7, 3) := by decide +kernel
theorem d1_88 : decode prog_72_method_5_code 88 = .ok (.iconst 1, 1) := by decide +kernel
theorem d1_89 : decode prog_72_method_5_code 89 = .ok (.goto 46, 3) := by decide +kernel
theorem d1_92 : decode prog_72_method_5_code 92 = .ok (.iconst 0, 1) := by decide +kernel
theorem d1_93 : decode prog_72_method_5_code 93 = .ok (.goto 42, 3) := by decide +kernel
theorem d1_96 : decode prog_72_method_5_code 96 = .ok (.lload_n 1, 1) := by decide +kernel
theorem d1_97 : decode prog_72_method_5_code 97 = .ok (.lload_n 3, 1) := by decide +kernel
theorem d1_98 : decode prog_72_method_5_code 98 = .ok (.lcmp, 1) := by decide +kernel
theorem d1_99 : decode prog_72_method_5_code 99 = .ok (.ifCond .gt 7, 3) := by decide +kernel
theorem d1_102 : decode prog_72_method_5_code 102 = .ok (.iconst 1, 1) := by decide +kernel
theorem d1_103 : decode prog_72_method_5_code 103 = .ok (.goto 32, 3) := by decide +kernel
theorem d1_106 : decode prog_72_method_5_code 106 = .ok (.iconst 0, 1) := by decide +kernel
theorem d1_107 : decode prog_72_method_5_code 107 = .ok (.goto 28, 3) := by decide +kernel
theorem d1_110 : decode prog_72_method_5_code 110 = .ok (.lload_n 1, 1) := by decide +kernel
theorem d1_111 : decode prog_72_method_5_code 111 = .ok (.lload_n 3, 1) := by decide +kernel
theorem d1_112 : decode prog_72_method_5_code 112 = .ok (.lcmp, 1) := by decide +kernel
theorem d1_113 : decode prog_72_method_5_code 113 = .ok (.ifCond .le 7, 3) := by decide +kernel
theorem d1_116 : decode prog_72_method_5_code 116 = .ok (.iconst 1, 1) := by decide +kernel
theorem d1_117 : decode prog_72_method_5_code 117 = .ok (.goto 18, 3) := by decide +kernel
theorem d1_120 : decode prog_72_method_5_code 120 = .ok (.iconst 0, 1) := by decide +kernel
theorem d1_121 : decode prog_72_method_5_code 121 = .ok (.goto 14, 3) := by decide +kernel
theorem d1_124 : decode prog_72_method_5_code 124 = .ok (.lload_n 1, 1) := by decide +kernel
theorem d1_125 : decode prog_72_method_5_code 125 = .ok (.lload_n 3, 1) := by decide +kernel
theorem d1_126 : decode prog_72_method_5_code 126 = .ok (.lcmp, 1) := by decide +kernel
theorem d1_127 : decode prog_72_method_5_code 127 = .ok (.ifCond .lt 7, 3) := by decide +kernel
theorem d1_130 : decode prog_72_method_5_code 130 = .ok (.iconst 1, 1) := by decide +kernel
theorem d1_131 : decode prog_72_method_5_code 131 = .ok (.goto 4, 3) := by decide +kernel
theorem d1_134 : decode prog_72_method_5_code 134 = .ok (.iconst 0, 1) := by decide +kernel
theorem d1_135 : decode prog_72_method_5_code 135 = .ok (.ireturn, 1) := by decide +kernel
theorem tw0 {Z : State} {a0 : Array Value} (hw : ∀ d ∈ tables_1, d.before a0 Z = true) : (Jvm.Cond.fieldLink "com/example/abstract_to_verify/abstracttoverify/model/OperatorTestPinLaw" (7 : Nat) "com/example/abstract_to_verify/abstracttoverify/model/Comparison$Operator" "EQUAL" "Lcom/example/abstract_to_verify/abstracttoverify/model/Comparison$Operator;").before a0 Z = true := hw _ (List.mem_of_getElem? (i := 0) rfl)
theorem tw1 {Z : State} {a0 : Array Value} (hw : ∀ d ∈ tables_1, d.before a0 Z = true) : (Jvm.Cond.initialized "com/example/abstract_to_verify/abstracttoverify/model/Comparison$Operator").before a0 Z = true := hw _ (List.mem_of_getElem? (i := 1) rfl)
theorem tw2 {Z : State} {a0 : Array Value} (hw : ∀ d ∈ tables_1, d.before a0 Z = true) : (Jvm.Cond.laysStatic "com/example/abstract_to_verify/abstracttoverify/model/Comparison$Operator" "EQUAL" "Lcom/example/abstract_to_verify/abstracttoverify/model/Comparison$Operator;").before a0 Z = true := hw _ (List.mem_of_getElem? (i := 2) rfl)
theorem tw3 {Z : State} {a0 : Array Value} (hw : ∀ d ∈ tables_1, d.before a0 Z = true) : (Jvm.Cond.methodLink "com/example/abstract_to_verify/abstracttoverify/model/OperatorTestPinLaw" (13 : Nat) ({ cls := "com/example/abstract_to_verify/abstracttoverify/model/Comparison$Operator", name := "test", desc := "(JJ)Z" } : Jvm.MethodName)).before a0 Z = true := hw _ (List.mem_of_getElem? (i := 3) rfl)
theorem tw4 {Z : State} {a0 : Array Value} (hw : ∀ d ∈ tables_1, d.before a0 Z = true) : (Jvm.Cond.declares ({ cls := "com/example/abstract_to_verify/abstracttoverify/model/Comparison$Operator", name := "test", desc := "(JJ)Z" } : Jvm.MethodName)).before a0 Z = true := hw _ (List.mem_of_getElem? (i := 4) rfl)
theorem tw5 {Z : State} {a0 : Array Value} (hw : ∀ d ∈ tables_1, d.before a0 Z = true) : (Jvm.Cond.instanceMethod ({ cls := "com/example/abstract_to_verify/abstracttoverify/model/Comparison$Operator", name := "test", desc := "(JJ)Z" } : Jvm.MethodName)).before a0 Z = true := hw _ (List.mem_of_getElem? (i := 5) rfl)
theorem tw6 {Z : State} {a0 : Array Value} (hw : ∀ d ∈ tables_1, d.before a0 Z = true) : (Jvm.Cond.selects "com/example/abstract_to_verify/abstracttoverify/model/Comparison$Operator" ({ cls := "com/example/abstract_to_verify/abstracttoverify/model/Comparison$Operator", name := "test", desc := "(JJ)Z" } : Jvm.MethodName) ({ cls := "com/example/abstract_to_verify/abstracttoverify/model/Comparison$Operator", name := "test", desc := "(JJ)Z" } : Jvm.MethodName)).before a0 Z = true := hw _ (List.mem_of_getElem? (i := 6) rfl)
theorem tw7 {Z : State} {a0 : Array Value} (hw : ∀ d ∈ tables_1, d.before a0 Z = true) : (Jvm.Cond.code ({ cls := "com/example/abstract_to_verify/abstracttoverify/model/Comparison$Operator", name := "test", desc := "(JJ)Z" } : Jvm.MethodName) prog_72_method_5_code (5 : Nat) (Option.some Jvm.ClassFile.FieldType.boolean)).before a0 Z = true := hw _ (List.mem_of_getElem? (i := 7) rfl)
theorem tw8 {Z : State} {a0 : Array Value} (hw : ∀ d ∈ tables_1, d.before a0 Z = true) : (Jvm.Cond.methodLink "com/example/abstract_to_verify/abstracttoverify/model/Comparison$Operator" (45 : Nat) ({ cls := "com/example/abstract_to_verify/abstracttoverify/model/Comparison$Operator", name := "ordinal", desc := "()I" } : Jvm.MethodName)).before a0 Z = true := hw _ (List.mem_of_getElem? (i := 8) rfl)
theorem tw9 {Z : State} {a0 : Array Value} (hw : ∀ d ∈ tables_1, d.before a0 Z = true) : (Jvm.Cond.sameMethod "com/example/abstract_to_verify/abstracttoverify/model/Comparison$Operator" "java/lang/Enum" "ordinal" "()I").before a0 Z = true := hw _ (List.mem_of_getElem? (i := 9) rfl)
theorem tw10 {Z : State} {a0 : Array Value} (hw : ∀ d ∈ tables_1, d.before a0 Z = true) : (Jvm.Cond.declares ({ cls := "java/lang/Enum", name := "ordinal", desc := "()I" } : Jvm.MethodName)).before a0 Z = true := hw _ (List.mem_of_getElem? (i := 10) rfl)
theorem tw11 {Z : State} {a0 : Array Value} (hw : ∀ d ∈ tables_1, d.before a0 Z = true) : (Jvm.Cond.instanceMethod ({ cls := "java/lang/Enum", name := "ordinal", desc := "()I" } : Jvm.MethodName)).before a0 Z = true := hw _ (List.mem_of_getElem? (i := 11) rfl)
theorem tw12 {Z : State} {a0 : Array Value} (hw : ∀ d ∈ tables_1, d.before a0 Z = true) : (Jvm.Cond.selects "com/example/abstract_to_verify/abstracttoverify/model/Comparison$Operator" ({ cls := "com/example/abstract_to_verify/abstracttoverify/model/Comparison$Operator", name := "ordinal", desc := "()I" } : Jvm.MethodName) ({ cls := "java/lang/Enum", name := "ordinal", desc := "()I" } : Jvm.MethodName)).before a0 Z = true := hw _ (List.mem_of_getElem? (i := 12) rfl)
theorem tw13 {Z : State} {a0 : Array Value} (hw : ∀ d ∈ tables_1, d.before a0 Z = true) : (Jvm.Cond.initialized "java/lang/Enum").before a0 Z = true := hw _ (List.mem_of_getElem? (i := 13) rfl)
theorem tw14 {Z : State} {a0 : Array Value} (hw : ∀ d ∈ tables_1, d.before a0 Z = true) : (Jvm.Cond.code ({ cls := "java/lang/Enum", name := "ordinal", desc := "()I" } : Jvm.MethodName) jdk_37_method_2_code (1 : Nat) (Option.some Jvm.ClassFile.FieldType.int)).before a0 Z = true := hw _ (List.mem_of_getElem? (i := 14) rfl)
theorem tw15 {Z : State} {a0 : Array Value} (hw : ∀ d ∈ tables_1, d.before a0 Z = true) : (Jvm.Cond.fieldLink "java/lang/Enum" (7 : Nat) "java/lang/Enum" "ordinal" "I").before a0 Z = true := hw _ (List.mem_of_getElem? (i := 15) rfl)
theorem tw17 {Z : State} {a0 : Array Value} (hw : ∀ d ∈ tables_1, d.before a0 Z = true) : (Jvm.Cond.fieldLink "com/example/abstract_to_verify/abstracttoverify/model/OperatorTestPinLaw" (17 : Nat) "com/example/abstract_to_verify/abstracttoverify/model/Comparison$Operator" "NOT_EQUAL" "Lcom/example/abstract_to_verify/abstracttoverify/model/Comparison$Operator;").before a0 Z = true := hw _ (List.mem_of_getElem? (i := 17) rfl)
theorem tw18 {Z : State} {a0 : Array Value} (hw : ∀ d ∈ tables_1, d.before a0 Z = true) : (Jvm.Cond.laysStatic "com/example/abstract_to_verify/abstracttoverify/model/Comparison$Operator" "NOT_EQUAL" "Lcom/example/abstract_to_verify/abstracttoverify/model/Comparison$Operator;").before a0 Z = true := hw _ (List.mem_of_getElem? (i := 18) rfl)
theorem tw19 {Z : State} {a0 : Array Value} (hw : ∀ d ∈ tables_1, d.before a0 Z = true) : (Jvm.Cond.fieldLink "com/example/abstract_to_verify/abstracttoverify/model/OperatorTestPinLaw" (20 : Nat) "com/example/abstract_to_verify/abstracttoverify/model/Comparison$Operator" "LESS" "Lcom/example/abstract_to_verify/abstracttoverify/model/Comparison$Operator;").before a0 Z = true := hw _ (List.mem_of_getElem? (i := 19) rfl)
theorem tw20 {Z : State} {a0 : Array Value} (hw : ∀ d ∈ tables_1, d.before a0 Z = true) : (Jvm.Cond.laysStatic "com/example/abstract_to_verify/abstracttoverify/model/Comparison$Operator" "LESS" "Lcom/example/abstract_to_verify/abstracttoverify/model/Comparison$Operator;").before a0 Z = true := hw _ (List.mem_of_getElem? (i := 20) rfl)
theorem tw21 {Z : State} {a0 : Array Value} (hw : ∀ d ∈ tables_1, d.before a0 Z = true) : (Jvm.Cond.fieldLink "com/example/abstract_to_verify/abstracttoverify/model/OperatorTestPinLaw" (23 : Nat) "com/example/abstract_to_verify/abstracttoverify/model/Comparison$Operator" "LESS_OR_EQUAL" "Lcom/example/abstract_to_verify/abstracttoverify/model/Comparison$Operator;").before a0 Z = true := hw _ (List.mem_of_getElem? (i := 21) rfl)
theorem tw22 {Z : State} {a0 : Array Value} (hw : ∀ d ∈ tables_1, d.before a0 Z = true) : (Jvm.Cond.laysStatic "com/example/abstract_to_verify/abstracttoverify/model/Comparison$Operator" "LESS_OR_EQUAL" "Lcom/example/abstract_to_verify/abstracttoverify/model/Comparison$Operator;").before a0 Z = true := hw _ (List.mem_of_getElem? (i := 22) rfl)
theorem tw23 {Z : State} {a0 : Array Value} (hw : ∀ d ∈ tables_1, d.before a0 Z = true) : (Jvm.Cond.fieldLink "com/example/abstract_to_verify/abstracttoverify/model/OperatorTestPinLaw" (26 : Nat) "com/example/abstract_to_verify/abstracttoverify/model/Comparison$Operator" "GREATER" "Lcom/example/abstract_to_verify/abstracttoverify/model/Comparison$Operator;").before a0 Z = true := hw _ (List.mem_of_getElem? (i := 23) rfl)
theorem tw24 {Z : State} {a0 : Array Value} (hw : ∀ d ∈ tables_1, d.before a0 Z = true) : (Jvm.Cond.laysStatic "com/example/abstract_to_verify/abstracttoverify/model/Comparison$Operator" "GREATER" "Lcom/example/abstract_to_verify/abstracttoverify/model/Comparison$Operator;").before a0 Z = true := hw _ (List.mem_of_getElem? (i := 24) rfl)
theorem tw25 {Z : State} {a0 : Array Value} (hw : ∀ d ∈ tables_1, d.before a0 Z = true) : (Jvm.Cond.fieldLink "com/example/abstract_to_verify/abstracttoverify/model/OperatorTestPinLaw" (29 : Nat) "com/example/abstract_to_verify/abstracttoverify/model/Comparison$Operator" "GREATER_OR_EQUAL" "Lcom/example/abstract_to_verify/abstracttoverify/model/Comparison$Operator;").before a0 Z = true := hw _ (List.mem_of_getElem? (i := 25) rfl)
theorem tw26 {Z : State} {a0 : Array Value} (hw : ∀ d ∈ tables_1, d.before a0 Z = true) : (Jvm.Cond.laysStatic "com/example/abstract_to_verify/abstracttoverify/model/Comparison$Operator" "GREATER_OR_EQUAL" "Lcom/example/abstract_to_verify/abstracttoverify/model/Comparison$Operator;").before a0 Z = true := hw _ (List.mem_of_getElem? (i := 26) rfl)
theorem tw27 {Z : State} {a0 : Array Value} (hw : ∀ d ∈ tables_1, d.before a0 Z = true) : (Jvm.Cond.methodLink "com/example/abstract_to_verify/abstracttoverify/model/OperatorTestPinLaw" (32 : Nat) ({ cls := "com/example/abstract_to_verify/abstracttoverify/model/OperatorTestPinLaw", name := "lessRef", desc := "(JJ)Z" } : Jvm.MethodName)).before a0 Z = true := hw _ (List.mem_of_getElem? (i := 27) rfl)
theorem tw28 {Z : State} {a0 : Array Value} (hw : ∀ d ∈ tables_1, d.before a0 Z = true) : (Jvm.Cond.static ({ cls := "com/example/abstract_to_verify/abstracttoverify/model/OperatorTestPinLaw", name := "lessRef", desc := "(JJ)Z" } : Jvm.MethodName)).before a0 Z = true := hw _ (List.mem_of_getElem? (i := 28) rfl)
theorem tw29 {Z : State} {a0 : Array Value} (hw : ∀ d ∈ tables_1, d.before a0 Z = true) : (Jvm.Cond.initialized "com/example/abstract_to_verify/abstracttoverify/model/OperatorTestPinLaw").before a0 Z = true := hw _ (List.mem_of_getElem? (i := 29) rfl)
theorem tw30 {Z : State} {a0 : Array Value} (hw : ∀ d ∈ tables_1, d.before a0 Z = true) : (Jvm.Cond.code ({ cls := "com/example/abstract_to_verify/abstracttoverify/model/OperatorTestPinLaw", name := "lessRef", desc := "(JJ)Z" } : Jvm.MethodName) method_2_code (8 : Nat) (Option.some Jvm.ClassFile.FieldType.boolean)).before a0 Z = true := hw _ (List.mem_of_getElem? (i := 30) rfl)
theorem tw31 {Z : State} {a0 : Array Value} (hw : ∀ d ∈ tables_1, d.before a0 Z = true) : (Jvm.Cond.methodLink "com/example/abstract_to_verify/abstracttoverify/model/OperatorTestPinLaw" (37 : Nat) ({ cls := "com/example/abstract_to_verify/abstracttoverify/model/OperatorTestPinLaw", name := "one", desc := "(Z)I" } : Jvm.MethodName)).before a0 Z = true := hw _ (List.mem_of_getElem? (i := 31) rfl)
theorem tw32 {Z : State} {a0 : Array Value} (hw : ∀ d ∈ tables_1, d.before a0 Z = true) : (Jvm.Cond.static ({ cls := "com/example/abstract_to_verify/abstracttoverify/model/OperatorTestPinLaw", name := "one", desc := "(Z)I" } : Jvm.MethodName)).before a0 Z = true := hw _ (List.mem_of_getElem? (i := 32) rfl)
theorem tw33 {Z : State} {a0 : Array Value} (hw : ∀ d ∈ tables_1, d.before a0 Z = true) : (Jvm.Cond.code ({ cls := "com/example/abstract_to_verify/abstracttoverify/model/OperatorTestPinLaw", name := "one", desc := "(Z)I" } : Jvm.MethodName) method_3_code (1 : Nat) (Option.some Jvm.ClassFile.FieldType.int)).before a0 Z = true := hw _ (List.mem_of_getElem? (i := 33) rfl)
theorem pd_0 : parseMethodDescriptor "()I" = some ⟨[], some .int⟩ := by decide +kernel
theorem pd_1 : parseMethodDescriptor "(JJ)Z" = some ⟨[.long, .long], some .boolean⟩ := by decide +kernel
theorem pd_2 : parseMethodDescriptor "(Z)I" = some ⟨[.boolean], some .int⟩ := by decide +kernel
theorem pn_0 : plainName "java/lang/Enum" = true := by first | (simp [plainName, overriddenIn]; done) | decide +kernel
theorem pn_1 : plainName "com/example/abstract_to_verify/abstracttoverify/model/Comparison$Operator" = true := by first | (simp [plainName, overriddenIn]; done) | decide +kernel
theorem pn_2 : plainName "com/example/abstract_to_verify/abstracttoverify/model/OperatorTestPinLaw" = true := by first | (simp [plainName, overriddenIn]; done) | decide +kernel
abbrev xs0 : String := "Lcom/example/abstract_to_verify/abstracttoverify/model/Comparison$Operator;"
abbrev xs1 : String := "com/example/abstract_to_verify/abstracttoverify/model/Comparison$Operator"
abbrev xs2 : String := "com/example/abstract_to_verify/abstracttoverify/model/OperatorTestPinLaw"
abbrev xs3 : String := "java/lang/Enum"
abbrev xm0 : MethodName := (⟨xs2, "lessRef", "(JJ)Z"⟩ : MethodName)
abbrev xm1 : MethodName := (⟨xs3, "ordinal", "()I"⟩ : MethodName)
abbrev xm2 : MethodName := (⟨xs1, "ordinal", "()I"⟩ : MethodName)
abbrev xm3 : MethodName := (⟨xs1, "test", "(JJ)Z"⟩ : MethodName)
abbrev xm4 : MethodName := (⟨xs2, "one", "(Z)I"⟩ : MethodName)
abbrev xr0 : Room := ({ frames := 1, cells := 0, slots := 0, locals := 12 } : Room)
abbrev xr1 : Room := ({ frames := 0, cells := 0, slots := 0, locals := 0 } : Room)
theorem ef_ord (m : MethodId) (x0 : Addr) : entryFrame m #[(.ref x0)] 1 = mkF m 0 #[.val (.ref x0)] [] := by first | (simp [entryFrame, mkF, argsToLocals, Value.category]; done) | rfl
def Q_ord (Z : State) (a1 : Addr) (w2 : Int32) (h0 : Heap) (n0 : Nat) (v : Option Value) (h : Heap) (L : List Loc) : Prop := v = some (.int w2) ∧ Fr n0 L ∧ h = h0
set_option maxRecDepth 65536 in
set_option maxHeartbeats 40000000 in
theorem rm_ord (l : Launch) (Z : State) (a0 : Array Value) (hw : ∀ d ∈ tables_1, d.before a0 Z = true) (ws : List Jvm.Cond) (a1 : Addr) (w2 : Int32) (h0 : Heap) (n0 : Nat) (Z0 : n0 ≤ h0.size) (F_ordinal_a1 : Fld Z h0 a1 xs3 "ordinal" "I" (.int w2)) :
    MetFree l xm1 (head1 (Jvm.Cond.code xm1 jdk_37_method_2_code 1 (some .int) :: ws) xr1) (fun a U => a = #[(.ref a1)] ∧ Z.Warmed39 U.vm ∧ U.heap = h0) (fun _ _ _ _ _ => True) (fun _ U o U' => ∃ v L, o = .returned v ∧ Q_ord Z a1 w2 h0 n0 v U'.heap L ∧ FrameEnd U o U' L xr1.cells xr1.slots) := by
  refine MetFree.of_bodySF (plainFor_of_name pn_0) hisR ?_
  intro p e s m args below meth c s₁ Bd hml0 hP hK
  obtain ⟨rfl, hZ, hh⟩ := hP
  have hx := Bd.exec
  have hby := Bd.bytes
  have hlk : meth.locks = false := BodyLoose.notSynchronized Bd
  have hml : c.maxLocals = 1 := hml0
  have hown : s.vm.findClass xs3 = some m.cls := findClass_of_methodNamed Bd.named
  have hnm := (name_of_methodNamed Bd.named Bd.method).1
  have X0 : Stand p l e xr1 s m #[(.ref a1)] below meth c s₁ [] 0 0 := Stand.of_body Bd
  have e0 : s₁.heap = h0 := by rw [← hh, Bd.state]; rfl
  have N0 := Fr.nil n0
  show Go p e below s (Q_ord Z a1 w2 h0 n0) xr1.cells xr1.slots s₁ (entryFrame m #[(.ref a1)] 1)
  refine Go.cast (ef_ord m a1) ?_
  show Go p e below s _ _ _ s₁ (mkF m 0 #[.val (.ref a1)] [])
  refine Go.step (fun _ k => XS.aloadN X0.here hx rfl (hb hby d0_0) rfl rfl k) ?_
  show Go p e below s _ _ _ s₁ (mkF m 1 #[.val (.ref a1)] [(.ref a1)])
  obtain ⟨T1, X1, e1, st1⟩ := getF X0 hx hZ hown (host := "") (Or.inl (tw15 hw)) Via.refl e0 F_ordinal_a1 (g := (mkF m 1 #[.val (.ref a1)] [(.ref a1)])) rfl rfl (hb hby d0_1)
  refine Go.step (fun _ k => st1 _ k) ?_
  show Go p e below s _ _ _ T1 (mkF m 4 #[.val (.ref a1)] [(.int w2)])
  exact Go.retI X1 hx hlk Bd.returns (hb hby d0_4) e1 ⟨rfl, N0, rfl⟩ (by decide) (by decide)

theorem ef_test0 (m : MethodId) (x0 : Addr) (x1 : Int64) (x2 : Int64) : entryFrame m #[(.ref x0), (.long x1), (.long x2)] 5 = mkF m 0 #[.val (.ref x0), .val (.long x1), .second, .val (.long x2), .second] [] := by first | (simp [entryFrame, mkF, argsToLocals, Value.category]; done) | rfl
def Q_test0 (Z : State) (a1 : Addr) (q2 : Int64) (q3 : Int64) (h0 : Heap) (n0 : Nat) (v : Option Value) (h : Heap) (L : List Loc) : Prop := v = some (.int (own_b (q2 = q3))) ∧ Fr n0 L ∧ h = h0
set_option maxRecDepth 65536 in
set_option maxHeartbeats 40000000 in
theorem rm_test0 (l : Launch) (Z : State) (a0 : Array Value) (hw : ∀ d ∈ tables_1, d.before a0 Z = true) (ws : List Jvm.Cond) (a1 : Addr) (q2 : Int64) (q3 : Int64) (h0 : Heap) (n0 : Nat) (Z0 : n0 ≤ h0.size) (E_a1 : Exa Z h0 a1 xs1) (F_ordinal_a1 : Fld Z h0 a1 xs3 "ordinal" "I" (.int (0 : Int32))) :
    MetFree l xm3 (head1 (Jvm.Cond.code xm3 prog_72_method_5_code 5 (some .boolean) :: ws) xr0) (fun a U => a = #[(.ref a1), (.long q2), (.long q3)] ∧ Z.Warmed39 U.vm ∧ U.heap = h0) (fun _ _ _ _ _ => True) (fun _ U o U' => ∃ v L, o = .returned v ∧ Q_test0 Z a1 q2 q3 h0 n0 v U'.heap L ∧ FrameEnd U o U' L xr0.cells xr0.slots) := by
  refine MetFree.of_bodySF (plainFor_of_name pn_1) hisR ?_
  intro p e s m args below meth c s₁ Bd hml0 hP hK
  obtain ⟨rfl, hZ, hh⟩ := hP
  have hx := Bd.exec
  have hby := Bd.bytes
  have hlk : meth.locks = false := BodyLoose.notSynchronized Bd
  have hml : c.maxLocals = 5 := hml0
  have hown : s.vm.findClass xs1 = some m.cls := findClass_of_methodNamed Bd.named
  have hnm := (name_of_methodNamed Bd.named Bd.method).1
  have X0 : Stand p l e xr0 s m #[(.ref a1), (.long q2), (.long q3)] below meth c s₁ [] 0 0 := Stand.of_body Bd
  have e0 : s₁.heap = h0 := by rw [← hh, Bd.state]; rfl
  have N0 := Fr.nil n0
  show Go p e below s (Q_test0 Z a1 q2 q3 h0 n0) xr0.cells xr0.slots s₁ (entryFrame m #[(.ref a1), (.long q2), (.long q3)] 5)
  refine Go.cast (ef_test0 m a1 q2 q3) ?_
  show Go p e below s _ _ _ s₁ (mkF m 0 #[.val (.ref a1), .val (.long q2), .second, .val (.long q3), .second] [])
  refine Go.step (fun _ k => XS.aloadN X0.here hx rfl (hb hby d1_0) rfl rfl k) ?_
  show Go p e below s _ _ _ s₁ (mkF m 1 #[.val (.ref a1), .val (.long q2), .second, .val (.long q3), .second] [(.ref a1)])
  obtain ⟨cq1, kq1, q1a, q1b, q1c⟩ := isOf hZ e0 E_a1
  obtain ⟨_, _, ⟨T1, L1, k1, n1⟩, -, X1, ⟨Lc1, hQ1, l1, y1, z1⟩, st1⟩ := X0.virtualBackUp hx (owner := xs3) (x := xm2) (y := xm1) hown (mvT hZ (tw8 hw)) (mvT hZ (tw9 hw)) (mvT hZ (tw10 hw)) (by decide) (mvT hZ (tw12 hw)) (mvT hZ (tw11 hw)) (backOf (W := 0) (rm_ord l Z a0 hw [] a1 (0 : Int32) h0 n0 Z0 F_ordinal_a1) hZ (tw14 hw) (tw13 hw) (by decide) (by decide)) q1a q1c (g := (mkF m 1 #[.val (.ref a1), .val (.long q2), .second, .val (.long q3), .second] [(.ref a1)])) rfl (by rw [hml]; rfl) (Steps.refl _) (argsL := []) (rest := []) (lenOf pd_0 rfl) rfl (by show 2 * 0 + _ ≤ _; exact Nat.le_of_eq rfl) (hb hby d1_1) (fun _ _ => ⟨rfl, e0, (by decide : 0 + 0 ≤ _), (by decide : 0 + 0 ≤ _)⟩)
  dsimp only [Pt.U, Pt.locs, Pt.cells, Pt.slots] at X1 l1 y1 z1 st1 hQ1
  subst l1 y1 z1
  obtain ⟨rfl, N1q, eq1⟩ := hQ1
  have N2 := Fr.app N0 N1q
  refine Go.step (fun _ k => st1.trans (XS.tswIn X1.here hx rfl (pc0 := 4) (pc' := 54) rfl (hb hby d1_4) rfl (by decide) rfl (by decide) (by decide) (XS.lloadN X1.here hx rfl (hb hby d1_54) rfl (XS.lloadN X1.here hx rfl (hb hby d1_55) rfl (XS.lcmp X1.here hx rfl (hb hby d1_56) rfl k))))) ?_
  show Go p e below s _ _ _ T1 (mkF m 57 #[.val (.ref a1), .val (.long q2), .second, .val (.long q3), .second] [(.int (lcmpW q2 q3))])
  by_cases hc : (lcmpW q2 q3) = (0 : Int32)
  · refine Go.step (fun _ k => XS.ifNo X1.here hx rfl (hb hby d1_57) rfl ((if0 _ _).trans (teq hc).2) (XS.iconst X1.here hx rfl (hb hby d1_60) (XS.goto X1.here hx rfl (pc0 := 61) (pc' := 135) rfl (hb hby d1_61) (by decide) (by decide) k))) ?_
    show Go p e below s _ _ _ T1 (mkF m 135 #[.val (.ref a1), .val (.long q2), .second, .val (.long q3), .second] [(.int (1 : Int32))])
    exact Go.retN X1 hx hlk (t := .boolean) Bd.returns (by simp) (hb hby d1_135) eq1 ⟨(by rw [own_b, if_pos ((lw_eq _ _).mp hc)]; rfl), N2, rfl⟩ (by decide) (by decide)
  · refine Go.step (fun _ k => XS.ifYes X1.here hx rfl (pc0 := 57) (pc' := 64) rfl (hb hby d1_57) rfl ((if0 _ _).trans (feq hc).2) (by decide) (by decide) (XS.iconst X1.here hx rfl (hb hby d1_64) (XS.goto X1.here hx rfl (pc0 := 65) (pc' := 135) rfl (hb hby d1_65) (by decide) (by decide) k))) ?_
    show Go p e below s _ _ _ T1 (mkF m 135 #[.val (.ref a1), .val (.long q2), .second, .val (.long q3), .second] [(.int (0 : Int32))])
    exact Go.retN X1 hx hlk (t := .boolean) Bd.returns (by simp) (hb hby d1_135) eq1 ⟨(by rw [own_b, if_neg (fun q => hc ((lw_eq _ _).mpr q))]; rfl), N2, rfl⟩ (by decide) (by decide)

theorem ef_test1 (m : MethodId) (x0 : Addr) (x1 : Int64) (x2 : Int64) : entryFrame m #[(.ref x0), (.long x1), (.long x2)] 5 = mkF m 0 #[.val (.ref x0), .val (.long x1), .second, .val (.long x2), .second] [] := by first | (simp [entryFrame, mkF, argsToLocals, Value.category]; done) | rfl
def Q_test1 (Z : State) (a1 : Addr) (q2 : Int64) (q3 : Int64) (h0 : Heap) (n0 : Nat) (v : Option Value) (h : Heap) (L : List Loc) : Prop := v = some (.int (own_b (¬ q2 = q3))) ∧ Fr n0 L ∧ h = h0
set_option maxRecDepth 65536 in
set_option maxHeartbeats 40000000 in
theorem rm_test1 (l : Launch) (Z : State) (a0 : Array Value) (hw : ∀ d ∈ tables_1, d.before a0 Z = true) (ws : List Jvm.Cond) (a1 : Addr) (q2 : Int64) (q3 : Int64) (h0 : Heap) (n0 : Nat) (Z0 : n0 ≤ h0.size) (E_a1 : Exa Z h0 a1 xs1) (F_ordinal_a1 : Fld Z h0 a1 xs3 "ordinal" "I" (.int (1 : Int32))) :
    MetFree l xm3 (head1 (Jvm.Cond.code xm3 prog_72_method_5_code 5 (some .boolean) :: ws) xr0) (fun a U => a = #[(.ref a1), (.long q2), (.long q3)] ∧ Z.Warmed39 U.vm ∧ U.heap = h0) (fun _ _ _ _ _ => True) (fun _ U o U' => ∃ v L, o = .returned v ∧ Q_test1 Z a1 q2 q3 h0 n0 v U'.heap L ∧ FrameEnd U o U' L xr0.cells xr0.slots) := by
  refine MetFree.of_bodySF (plainFor_of_name pn_1) hisR ?_
  intro p e s m args below meth c s₁ Bd hml0 hP hK
  obtain ⟨rfl, hZ, hh⟩ := hP
  have hx := Bd.exec
  have hby := Bd.bytes
  have hlk : meth.locks = false := BodyLoose.notSynchronized Bd
  have hml : c.maxLocals = 5 := hml0
  have hown : s.vm.findClass xs1 = some m.cls := findClass_of_methodNamed Bd.named
  have hnm := (name_of_methodNamed Bd.named Bd.method).1
  have X0 : Stand p l e xr0 s m #[(.ref a1), (.long q2), (.long q3)] below meth c s₁ [] 0 0 := Stand.of_body Bd
  have e0 : s₁.heap = h0 := by rw [← hh, Bd.state]; rfl
  have N0 := Fr.nil n0
  show Go p e below s (Q_test1 Z a1 q2 q3 h0 n0) xr0.cells xr0.slots s₁ (entryFrame m #[(.ref a1), (.long q2), (.long q3)] 5)
  refine Go.cast (ef_test1 m a1 q2 q3) ?_
  show Go p e below s _ _ _ s₁ (mkF m 0 #[.val (.ref a1), .val (.long q2), .second, .val (.long q3), .second] [])
  refine Go.step (fun _ k => XS.aloadN X0.here hx rfl (hb hby d1_0) rfl rfl k) ?_
  show Go p e below s _ _ _ s₁ (mkF m 1 #[.val (.ref a1), .val (.long q2), .second, .val (.long q3), .second] [(.ref a1)])
  obtain ⟨cq1, kq1, q1a, q1b, q1c⟩ := isOf hZ e0 E_a1
  obtain ⟨_, _, ⟨T1, L1, k1, n1⟩, -, X1, ⟨Lc1, hQ1, l1, y1, z1⟩, st1⟩ := X0.virtualBackUp hx (owner := xs3) (x := xm2) (y := xm1) hown (mvT hZ (tw8 hw)) (mvT hZ (tw9 hw)) (mvT hZ (tw10 hw)) (by decide) (mvT hZ (tw12 hw)) (mvT hZ (tw11 hw)) (backOf (W := 0) (rm_ord l Z a0 hw [] a1 (1 : Int32) h0 n0 Z0 F_ordinal_a1) hZ (tw14 hw) (tw13 hw) (by decide) (by decide)) q1a q1c (g := (mkF m 1 #[.val (.ref a1), .val (.long q2), .second, .val (.long q3), .second] [(.ref a1)])) rfl (by rw [hml]; rfl) (Steps.refl _) (argsL := []) (rest := []) (lenOf pd_0 rfl) rfl (by show 2 * 0 + _ ≤ _; exact Nat.le_of_eq rfl) (hb hby d1_1) (fun _ _ => ⟨rfl, e0, (by decide : 0 + 0 ≤ _), (by decide : 0 + 0 ≤ _)⟩)
  dsimp only [Pt.U, Pt.locs, Pt.cells, Pt.slots] at X1 l1 y1 z1 st1 hQ1
  subst l1 y1 z1
  obtain ⟨rfl, N1q, eq1⟩ := hQ1
  have N2 := Fr.app N0 N1q
  refine Go.step (fun _ k => st1.trans (XS.tswIn X1.here hx rfl (pc0 := 4) (pc' := 68) rfl (hb hby d1_4) rfl (by decide) rfl (by decide) (by decide) (XS.lloadN X1.here hx rfl (hb hby d1_68) rfl (XS.lloadN X1.here hx rfl (hb hby d1_69) rfl (XS.lcmp X1.here hx rfl (hb hby d1_70) rfl k))))) ?_
  show Go p e below s _ _ _ T1 (mkF m 71 #[.val (.ref a1), .val (.long q2), .second, .val (.long q3), .second] [(.int (lcmpW q2 q3))])
  by_cases hc : (lcmpW q2 q3) = (0 : Int32)
  · refine Go.step (fun _ k => XS.ifYes X1.here hx rfl (pc0 := 71) (pc' := 78) rfl (hb hby d1_71) rfl ((if0 _ _).trans (teq hc).1) (by decide) (by decide) (XS.iconst X1.here hx rfl (hb hby d1_78) (XS.goto X1.here hx rfl (pc0 := 79) (pc' := 135) rfl (hb hby d1_79) (by decide) (by decide) k))) ?_
    show Go p e below s _ _ _ T1 (mkF m 135 #[.val (.ref a1), .val (.long q2), .second, .val (.long q3), .second] [(.int (0 : Int32))])
    exact Go.retN X1 hx hlk (t := .boolean) Bd.returns (by simp) (hb hby d1_135) eq1 ⟨(by rw [own_b, if_neg (not_not_intro ((lw_eq _ _).mp hc))]; rfl), N2, rfl⟩ (by decide) (by decide)
  · refine Go.step (fun _ k => XS.ifNo X1.here hx rfl (hb hby d1_71) rfl ((if0 _ _).trans (feq hc).1) (XS.iconst X1.here hx rfl (hb hby d1_74) (XS.goto X1.here hx rfl (pc0 := 75) (pc' := 135) rfl (hb hby d1_75) (by decide) (by decide) k))) ?_
    show Go p e below s _ _ _ T1 (mkF m 135 #[.val (.ref a1), .val (.long q2), .second, .val (.long q3), .second] [(.int (1 : Int32))])
    exact Go.retN X1 hx hlk (t := .boolean) Bd.returns (by simp) (hb hby d1_135) eq1 ⟨(by rw [own_b, if_pos (fun q => hc ((lw_eq _ _).mpr q))]; rfl), N2, rfl⟩ (by decide) (by decide)

theorem ef_test2 (m : MethodId) (x0 : Addr) (x1 : Int64) (x2 : Int64) : entryFrame m #[(.ref x0), (.long x1), (.long x2)] 5 = mkF m 0 #[.val (.ref x0), .val (.long x1), .second, .val (.long x2), .second] [] := by first | (simp [entryFrame, mkF, argsToLocals, Value.category]; done) | rfl
def Q_test2 (Z : State) (a1 : Addr) (q2 : Int64) (q3 : Int64) (h0 : Heap) (n0 : Nat) (v : Option Value) (h : Heap) (L : List Loc) : Prop := v = some (.int (own_b (q2 < q3))) ∧ Fr n0 L ∧ h = h0
set_option maxRecDepth 65536 in
set_option maxHeartbeats 40000000 in
theorem rm_test2 (l : Launch) (Z : State) (a0 : Array Value) (hw : ∀ d ∈ tables_1, d.before a0 Z = true) (ws : List Jvm.Cond) (a1 : Addr) (q2 : Int64) (q3 : Int64) (h0 : Heap) (n0 : Nat) (Z0 : n0 ≤ h0.size) (E_a1 : Exa Z h0 a1 xs1) (F_ordinal_a1 : Fld Z h0 a1 xs3 "ordinal" "I" (.int (2 : Int32))) :
    MetFree l xm3 (head1 (Jvm.Cond.code xm3 prog_72_method_5_code 5 (some .boolean) :: ws) xr0) (fun a U => a = #[(.ref a1), (.long q2), (.long q3)] ∧ Z.Warmed39 U.vm ∧ U.heap = h0) (fun _ _ _ _ _ => True) (fun _ U o U' => ∃ v L, o = .returned v ∧ Q_test2 Z a1 q2 q3 h0 n0 v U'.heap L ∧ FrameEnd U o U' L xr0.cells xr0.slots) := by
  refine MetFree.of_bodySF (plainFor_of_name pn_1) hisR ?_
  intro p e s m args below meth c s₁ Bd hml0 hP hK
  obtain ⟨rfl, hZ, hh⟩ := hP
  have hx := Bd.exec
  have hby := Bd.bytes
  have hlk : meth.locks = false := BodyLoose.notSynchronized Bd
  have hml : c.maxLocals = 5 := hml0
  have hown : s.vm.findClass xs1 = some m.cls := findClass_of_methodNamed Bd.named
  have hnm := (name_of_methodNamed Bd.named Bd.method).1
  have X0 : Stand p l e xr0 s m #[(.ref a1), (.long q2), (.long q3)] below meth c s₁ [] 0 0 := Stand.of_body Bd
  have e0 : s₁.heap = h0 := by rw [← hh, Bd.state]; rfl
  have N0 := Fr.nil n0
  show Go p e below s (Q_test2 Z a1 q2 q3 h0 n0) xr0.cells xr0.slots s₁ (entryFrame m #[(.ref a1), (.long q2), (.long q3)] 5)
  refine Go.cast (ef_test2 m a1 q2 q3) ?_
  show Go p e below s _ _ _ s₁ (mkF m 0 #[.val (.ref a1), .val (.long q2), .second, .val (.long q3), .second] [])
  refine Go.step (fun _ k => XS.aloadN X0.here hx rfl (hb hby d1_0) rfl rfl k) ?_
  show Go p e below s _ _ _ s₁ (mkF m 1 #[.val (.ref a1), .val (.long q2), .second, .val (.long q3), .second] [(.ref a1)])
  obtain ⟨cq1, kq1, q1a, q1b, q1c⟩ := isOf hZ e0 E_a1
  obtain ⟨_, _, ⟨T1, L1, k1, n1⟩, -, X1, ⟨Lc1, hQ1, l1, y1, z1⟩, st1⟩ := X0.virtualBackUp hx (owner := xs3) (x := xm2) (y := xm1) hown (mvT hZ (tw8 hw)) (mvT hZ (tw9 hw)) (mvT hZ (tw10 hw)) (by decide) (mvT hZ (tw12 hw)) (mvT hZ (tw11 hw)) (backOf (W := 0) (rm_ord l Z a0 hw [] a1 (2 : Int32) h0 n0 Z0 F_ordinal_a1) hZ (tw14 hw) (tw13 hw) (by decide) (by decide)) q1a q1c (g := (mkF m 1 #[.val (.ref a1), .val (.long q2), .second, .val (.long q3), .second] [(.ref a1)])) rfl (by rw [hml]; rfl) (Steps.refl _) (argsL := []) (rest := []) (lenOf pd_0 rfl) rfl (by show 2 * 0 + _ ≤ _; exact Nat.le_of_eq rfl) (hb hby d1_1) (fun _ _ => ⟨rfl, e0, (by decide : 0 + 0 ≤ _), (by decide : 0 + 0 ≤ _)⟩)
  dsimp only [Pt.U, Pt.locs, Pt.cells, Pt.slots] at X1 l1 y1 z1 st1 hQ1
  subst l1 y1 z1
  obtain ⟨rfl, N1q, eq1⟩ := hQ1
  have N2 := Fr.app N0 N1q
  refine Go.step (fun _ k => st1.trans (XS.tswIn X1.here hx rfl (pc0 := 4) (pc' := 82) rfl (hb hby d1_4) rfl (by decide) rfl (by decide) (by decide) (XS.lloadN X1.here hx rfl (hb hby d1_82) rfl (XS.lloadN X1.here hx rfl (hb hby d1_83) rfl (XS.lcmp X1.here hx rfl (hb hby d1_84) rfl k))))) ?_
  show Go p e below s _ _ _ T1 (mkF m 85 #[.val (.ref a1), .val (.long q2), .second, .val (.long q3), .second] [(.int (lcmpW q2 q3))])
  by_cases hc : (lcmpW q2 q3) < (0 : Int32)
  · refine Go.step (fun _ k => XS.ifNo X1.here hx rfl (hb hby d1_85) rfl ((if0 _ _).trans (tlt hc).2.1) (XS.iconst X1.here hx rfl (hb hby d1_88) (XS.goto X1.here hx rfl (pc0 := 89) (pc' := 135) rfl (hb hby d1_89) (by decide) (by decide) k))) ?_
    show Go p e below s _ _ _ T1 (mkF m 135 #[.val (.ref a1), .val (.long q2), .second, .val (.long q3), .second] [(.int (1 : Int32))])
    exact Go.retN X1 hx hlk (t := .boolean) Bd.returns (by simp) (hb hby d1_135) eq1 ⟨(by rw [own_b, if_pos ((lw_lt _ _).mp hc)]; rfl), N2, rfl⟩ (by decide) (by decide)
  · refine Go.step (fun _ k => XS.ifYes X1.here hx rfl (pc0 := 85) (pc' := 92) rfl (hb hby d1_85) rfl ((if0 _ _).trans (flt hc).2.1) (by decide) (by decide) (XS.iconst X1.here hx rfl (hb hby d1_92) (XS.goto X1.here hx rfl (pc0 := 93) (pc' := 135) rfl (hb hby d1_93) (by decide) (by decide) k))) ?_
    show Go p e below s _ _ _ T1 (mkF m 135 #[.val (.ref a1), .val (.long q2), .second, .val (.long q3), .second] [(.int (0 : Int32))])
    exact Go.retN X1 hx hlk (t := .boolean) Bd.returns (by simp) (hb hby d1_135) eq1 ⟨(by rw [own_b, if_neg (fun q => hc ((lw_lt _ _).mpr q))]; rfl), N2, rfl⟩ (by decide) (by decide)

theorem ef_test3 (m : MethodId) (x0 : Addr) (x1 : Int64) (x2 : Int64) : entryFrame m #[(.ref x0), (.long x1), (.long x2)] 5 = mkF m 0 #[.val (.ref x0), .val (.long x1), .second, .val (.long x2), .second] [] := by first | (simp [entryFrame, mkF, argsToLocals, Value.category]; done) | rfl
def Q_test3 (Z : State) (a1 : Addr) (q2 : Int64) (q3 : Int64) (h0 : Heap) (n0 : Nat) (v : Option Value) (h : Heap) (L : List Loc) : Prop := v = some (.int (own_b (¬ q3 < q2))) ∧ Fr n0 L ∧ h = h0
set_option maxRecDepth 65536 in
set_option maxHeartbeats 40000000 in
theorem rm_test3 (l : Launch) (Z : State) (a0 : Array Value) (hw : ∀ d ∈ tables_1, d.before a0 Z = true) (ws : List Jvm.Cond) (a1 : Addr) (q2 : Int64) (q3 : Int64) (h0 : Heap) (n0 : Nat) (Z0 : n0 ≤ h0.size) (E_a1 : Exa Z h0 a1 xs1) (F_ordinal_a1 : Fld Z h0 a1 xs3 "ordinal" "I" (.int (3 : Int32))) :
    MetFree l xm3 (head1 (Jvm.Cond.code xm3 prog_72_method_5_code 5 (some .boolean) :: ws) xr0) (fun a U => a = #[(.ref a1), (.long q2), (.long q3)] ∧ Z.Warmed39 U.vm ∧ U.heap = h0) (fun _ _ _ _ _ => True) (fun _ U o U' => ∃ v L, o = .returned v ∧ Q_test3 Z a1 q2 q3 h0 n0 v U'.heap L ∧ FrameEnd U o U' L xr0.cells xr0.slots) := by
  refine MetFree.of_bodySF (plainFor_of_name pn_1) hisR ?_
  intro p e s m args below meth c s₁ Bd hml0 hP hK
  obtain ⟨rfl, hZ, hh⟩ := hP
  have hx := Bd.exec
  have hby := Bd.bytes
  have hlk : meth.locks = false := BodyLoose.notSynchronized Bd
  have hml : c.maxLocals = 5 := hml0
  have hown : s.vm.findClass xs1 = some m.cls := findClass_of_methodNamed Bd.named
  have hnm := (name_of_methodNamed Bd.named Bd.method).1
  have X0 : Stand p l e xr0 s m #[(.ref a1), (.long q2), (.long q3)] below meth c s₁ [] 0 0 := Stand.of_body Bd
  have e0 : s₁.heap = h0 := by rw [← hh, Bd.state]; rfl
  have N0 := Fr.nil n0
  show Go p e below s (Q_test3 Z a1 q2 q3 h0 n0) xr0.cells xr0.slots s₁ (entryFrame m #[(.ref a1), (.long q2), (.long q3)] 5)
  refine Go.cast (ef_test3 m a1 q2 q3) ?_
  show Go p e below s _ _ _ s₁ (mkF m 0 #[.val (.ref a1), .val (.long q2), .second, .val (.long q3), .second] [])
  refine Go.step (fun _ k => XS.aloadN X0.here hx rfl (hb hby d1_0) rfl rfl k) ?_
  show Go p e below s _ _ _ s₁ (mkF m 1 #[.val (.ref a1), .val (.long q2), .second, .val (.long q3), .second] [(.ref a1)])
  obtain ⟨cq1, kq1, q1a, q1b, q1c⟩ := isOf hZ e0 E_a1
  obtain ⟨_, _, ⟨T1, L1, k1, n1⟩, -, X1, ⟨Lc1, hQ1, l1, y1, z1⟩, st1⟩ := X0.virtualBackUp hx (owner := xs3) (x := xm2) (y := xm1) hown (mvT hZ (tw8 hw)) (mvT hZ (tw9 hw)) (mvT hZ (tw10 hw)) (by decide) (mvT hZ (tw12 hw)) (mvT hZ (tw11 hw)) (backOf (W := 0) (rm_ord l Z a0 hw [] a1 (3 : Int32) h0 n0 Z0 F_ordinal_a1) hZ (tw14 hw) (tw13 hw) (by decide) (by decide)) q1a q1c (g := (mkF m 1 #[.val (.ref a1), .val (.long q2), .second, .val (.long q3), .second] [(.ref a1)])) rfl (by rw [hml]; rfl) (Steps.refl _) (argsL := []) (rest := []) (lenOf pd_0 rfl) rfl (by show 2 * 0 + _ ≤ _; exact Nat.le_of_eq rfl) (hb hby d1_1) (fun _ _ => ⟨rfl, e0, (by decide : 0 + 0 ≤ _), (by decide : 0 + 0 ≤ _)⟩)
  dsimp only [Pt.U, Pt.locs, Pt.cells, Pt.slots] at X1 l1 y1 z1 st1 hQ1
  subst l1 y1 z1
  obtain ⟨rfl, N1q, eq1⟩ := hQ1
  have N2 := Fr.app N0 N1q
  refine Go.step (fun _ k => st1.trans (XS.tswIn X1.here hx rfl (pc0 := 4) (pc' := 96) rfl (hb hby d1_4) rfl (by decide) rfl (by decide) (by decide) (XS.lloadN X1.here hx rfl (hb hby d1_96) rfl (XS.lloadN X1.here hx rfl (hb hby d1_97) rfl (XS.lcmp X1.here hx rfl (hb hby d1_98) rfl k))))) ?_
  show Go p e below s _ _ _ T1 (mkF m 99 #[.val (.ref a1), .val (.long q2), .second, .val (.long q3), .second] [(.int (lcmpW q2 q3))])
  by_cases hc : (0 : Int32) < (lcmpW q2 q3)
  · refine Go.step (fun _ k => XS.ifYes X1.here hx rfl (pc0 := 99) (pc' := 106) rfl (hb hby d1_99) rfl ((if0 _ _).trans (tlt hc).2.2.1) (by decide) (by decide) (XS.iconst X1.here hx rfl (hb hby d1_106) (XS.goto X1.here hx rfl (pc0 := 107) (pc' := 135) rfl (hb hby d1_107) (by decide) (by decide) k))) ?_
    show Go p e below s _ _ _ T1 (mkF m 135 #[.val (.ref a1), .val (.long q2), .second, .val (.long q3), .second] [(.int (0 : Int32))])
    exact Go.retN X1 hx hlk (t := .boolean) Bd.returns (by simp) (hb hby d1_135) eq1 ⟨(by rw [own_b, if_neg (not_not_intro ((lw_gt _ _).mp hc))]; rfl), N2, rfl⟩ (by decide) (by decide)
  · refine Go.step (fun _ k => XS.ifNo X1.here hx rfl (hb hby d1_99) rfl ((if0 _ _).trans (flt hc).2.2.1) (XS.iconst X1.here hx rfl (hb hby d1_102) (XS.goto X1.here hx rfl (pc0 := 103) (pc' := 135) rfl (hb hby d1_103) (by decide) (by decide) k))) ?_
    show Go p e below s _ _ _ T1 (mkF m 135 #[.val (.ref a1), .val (.long q2), .second, .val (.long q3), .second] [(.int (1 : Int32))])
    exact Go.retN X1 hx hlk (t := .boolean) Bd.returns (by simp) (hb hby d1_135) eq1 ⟨(by rw [own_b, if_pos (fun q => hc ((lw_gt _ _).mpr q))]; rfl), N2, rfl⟩ (by decide) (by decide)

theorem ef_test4 (m : MethodId) (x0 : Addr) (x1 : Int64) (x2 : Int64) : entryFrame m #[(.ref x0), (.long x1), (.long x2)] 5 = mkF m 0 #[.val (.ref x0), .val (.long x1), .second, .val (.long x2), .second] [] := by first | (simp [entryFrame, mkF, argsToLocals, Value.category]; done) | rfl
def Q_test4 (Z : State) (a1 : Addr) (q2 : Int64) (q3 : Int64) (h0 : Heap) (n0 : Nat) (v : Option Value) (h : Heap) (L : List Loc) : Prop := v = some (.int (own_b (q3 < q2))) ∧ Fr n0 L ∧ h = h0
set_option maxRecDepth 65536 in
set_option maxHeartbeats 40000000 in
theorem rm_test4 (l : Launch) (Z : State) (a0 : Array Value) (hw : ∀ d ∈ tables_1, d.before a0 Z = true) (ws : List Jvm.Cond) (a1 : Addr) (q2 : Int64) (q3 : Int64) (h0 : Heap) (n0 : Nat) (Z0 : n0 ≤ h0.size) (E_a1 : Exa Z h0 a1 xs1) (F_ordinal_a1 : Fld Z h0 a1 xs3 "ordinal" "I" (.int (4 : Int32))) :
    MetFree l xm3 (head1 (Jvm.Cond.code xm3 prog_72_method_5_code 5 (some .boolean) :: ws) xr0) (fun a U => a = #[(.ref a1), (.long q2), (.long q3)] ∧ Z.Warmed39 U.vm ∧ U.heap = h0) (fun _ _ _ _ _ => True) (fun _ U o U' => ∃ v L, o = .returned v ∧ Q_test4 Z a1 q2 q3 h0 n0 v U'.heap L ∧ FrameEnd U o U' L xr0.cells xr0.slots) := by
  refine MetFree.of_bodySF (plainFor_of_name pn_1) hisR ?_
  intro p e s m args below meth c s₁ Bd hml0 hP hK
  obtain ⟨rfl, hZ, hh⟩ := hP
  have hx := Bd.exec
  have hby := Bd.bytes
  have hlk : meth.locks = false := BodyLoose.notSynchronized Bd
  have hml : c.maxLocals = 5 := hml0
  have hown : s.vm.findClass xs1 = some m.cls := findClass_of_methodNamed Bd.named
  have hnm := (name_of_methodNamed Bd.named Bd.method).1
  have X0 : Stand p l e xr0 s m #[(.ref a1), (.long q2), (.long q3)] below meth c s₁ [] 0 0 := Stand.of_body Bd
  have e0 : s₁.heap = h0 := by rw [← hh, Bd.state]; rfl
  have N0 := Fr.nil n0
  show Go p e below s (Q_test4 Z a1 q2 q3 h0 n0) xr0.cells xr0.slots s₁ (entryFrame m #[(.ref a1), (.long q2), (.long q3)] 5)
  refine Go.cast (ef_test4 m a1 q2 q3) ?_
  show Go p e below s _ _ _ s₁ (mkF m 0 #[.val (.ref a1), .val (.long q2), .second, .val (.long q3), .second] [])
  refine Go.step (fun _ k => XS.aloadN X0.here hx rfl (hb hby d1_0) rfl rfl k) ?_
  show Go p e below s _ _ _ s₁ (mkF m 1 #[.val (.ref a1), .val (.long q2), .second, .val (.long q3), .second] [(.ref a1)])
  obtain ⟨cq1, kq1, q1a, q1b, q1c⟩ := isOf hZ e0 E_a1
  obtain ⟨_, _, ⟨T1, L1, k1, n1⟩, -, X1, ⟨Lc1, hQ1, l1, y1, z1⟩, st1⟩ := X0.virtualBackUp hx (owner := xs3) (x := xm2) (y := xm1) hown (mvT hZ (tw8 hw)) (mvT hZ (tw9 hw)) (mvT hZ (tw10 hw)) (by decide) (mvT hZ (tw12 hw)) (mvT hZ (tw11 hw)) (backOf (W := 0) (rm_ord l Z a0 hw [] a1 (4 : Int32) h0 n0 Z0 F_ordinal_a1) hZ (tw14 hw) (tw13 hw) (by decide) (by decide)) q1a q1c (g := (mkF m 1 #[.val (.ref a1), .val (.long q2), .second, .val (.long q3), .second] [(.ref a1)])) rfl (by rw [hml]; rfl) (Steps.refl _) (argsL := []) (rest := []) (lenOf pd_0 rfl) rfl (by show 2 * 0 + _ ≤ _; exact Nat.le_of_eq rfl) (hb hby d1_1) (fun _ _ => ⟨rfl, e0, (by decide : 0 + 0 ≤ _), (by decide : 0 + 0 ≤ _)⟩)
  dsimp only [Pt.U, Pt.locs, Pt.cells, Pt.slots] at X1 l1 y1 z1 st1 hQ1
  subst l1 y1 z1
  obtain ⟨rfl, N1q, eq1⟩ := hQ1
  have N2 := Fr.app N0 N1q
  refine Go.step (fun _ k => st1.trans (XS.tswIn X1.here hx rfl (pc0 := 4) (pc' := 110) rfl (hb hby d1_4) rfl (by decide) rfl (by decide) (by decide) (XS.lloadN X1.here hx rfl (hb hby d1_110) rfl (XS.lloadN X1.here hx rfl (hb hby d1_111) rfl (XS.lcmp X1.here hx rfl (hb hby d1_112) rfl k))))) ?_
  show Go p e below s _ _ _ T1 (mkF m 113 #[.val (.ref a1), .val (.long q2), .second, .val (.long q3), .second] [(.int (lcmpW q2 q3))])
  by_cases hc : (0 : Int32) < (lcmpW q2 q3)
  · refine Go.step (fun _ k => XS.ifNo X1.here hx rfl (hb hby d1_113) rfl ((if0 _ _).trans (tlt hc).2.2.2) (XS.iconst X1.here hx rfl (hb hby d1_116) (XS.goto X1.here hx rfl (pc0 := 117) (pc' := 135) rfl (hb hby d1_117) (by decide) (by decide) k))) ?_
    show Go p e below s _ _ _ T1 (mkF m 135 #[.val (.ref a1), .val (.long q2), .second, .val (.long q3), .second] [(.int (1 : Int32))])
    exact Go.retN X1 hx hlk (t := .boolean) Bd.returns (by simp) (hb hby d1_135) eq1 ⟨(by rw [own_b, if_pos ((lw_gt _ _).mp hc)]; rfl), N2, rfl⟩ (by decide) (by decide)
  · refine Go.step (fun _ k => XS.ifYes X1.here hx rfl (pc0 := 113) (pc' := 120) rfl (hb hby d1_113) rfl ((if0 _ _).trans (flt hc).2.2.2) (by decide) (by decide) (XS.iconst X1.here hx rfl (hb hby d1_120) (XS.goto X1.here hx rfl (pc0 := 121) (pc' := 135) rfl (hb hby d1_121) (by decide) (by decide) k))) ?_
    show Go p e below s _ _ _ T1 (mkF m 135 #[.val (.ref a1), .val (.long q2), .second, .val (.long q3), .second] [(.int (0 : Int32))])
    exact Go.retN X1 hx hlk (t := .boolean) Bd.returns (by simp) (hb hby d1_135) eq1 ⟨(by rw [own_b, if_neg (fun q => hc ((lw_gt _ _).mpr q))]; rfl), N2, rfl⟩ (by decide) (by decide)

theorem ef_test5 (m : MethodId) (x0 : Addr) (x1 : Int64) (x2 : Int64) : entryFrame m #[(.ref x0), (.long x1), (.long x2)] 5 = mkF m 0 #[.val (.ref x0), .val (.long x1), .second, .val (.long x2), .second] [] := by first | (simp [entryFrame, mkF, argsToLocals, Value.category]; done) | rfl
def Q_test5 (Z : State) (a1 : Addr) (q2 : Int64) (q3 : Int64) (h0 : Heap) (n0 : Nat) (v : Option Value) (h : Heap) (L : List Loc) : Prop := v = some (.int (own_b (¬ q2 < q3))) ∧ Fr n0 L ∧ h = h0
set_option maxRecDepth 65536 in
set_option maxHeartbeats 40000000 in
theorem rm_test5 (l : Launch) (Z : State) (a0 : Array Value) (hw : ∀ d ∈ tables_1, d.before a0 Z = true) (ws : List Jvm.Cond) (a1 : Addr) (q2 : Int64) (q3 : Int64) (h0 : Heap) (n0 : Nat) (Z0 : n0 ≤ h0.size) (E_a1 : Exa Z h0 a1 xs1) (F_ordinal_a1 : Fld Z h0 a1 xs3 "ordinal" "I" (.int (5 : Int32))) :
    MetFree l xm3 (head1 (Jvm.Cond.code xm3 prog_72_method_5_code 5 (some .boolean) :: ws) xr0) (fun a U => a = #[(.ref a1), (.long q2), (.long q3)] ∧ Z.Warmed39 U.vm ∧ U.heap = h0) (fun _ _ _ _ _ => True) (fun _ U o U' => ∃ v L, o = .returned v ∧ Q_test5 Z a1 q2 q3 h0 n0 v U'.heap L ∧ FrameEnd U o U' L xr0.cells xr0.slots) := by
  refine MetFree.of_bodySF (plainFor_of_name pn_1) hisR ?_
  intro p e s m args below meth c s₁ Bd hml0 hP hK
  obtain ⟨rfl, hZ, hh⟩ := hP
  have hx := Bd.exec
  have hby := Bd.bytes
  have hlk : meth.locks = false := BodyLoose.notSynchronized Bd
  have hml : c.maxLocals = 5 := hml0
  have hown : s.vm.findClass xs1 = some m.cls := findClass_of_methodNamed Bd.named
  have hnm := (name_of_methodNamed Bd.named Bd.method).1
  have X0 : Stand p l e xr0 s m #[(.ref a1), (.long q2), (.long q3)] below meth c s₁ [] 0 0 := Stand.of_body Bd
  have e0 : s₁.heap = h0 := by rw [← hh, Bd.state]; rfl
  have N0 := Fr.nil n0
  show Go p e below s (Q_test5 Z a1 q2 q3 h0 n0) xr0.cells xr0.slots s₁ (entryFrame m #[(.ref a1), (.long q2), (.long q3)] 5)
  refine Go.cast (ef_test5 m a1 q2 q3) ?_
  show Go p e below s _ _ _ s₁ (mkF m 0 #[.val (.ref a1), .val (.long q2), .second, .val (.long q3), .second] [])
  refine Go.step (fun _ k => XS.aloadN X0.here hx rfl (hb hby d1_0) rfl rfl k) ?_
  show Go p e below s _ _ _ s₁ (mkF m 1 #[.val (.ref a1), .val (.long q2), .second, .val (.long q3), .second] [(.ref a1)])
  obtain ⟨cq1, kq1, q1a, q1b, q1c⟩ := isOf hZ e0 E_a1
  obtain ⟨_, _, ⟨T1, L1, k1, n1⟩, -, X1, ⟨Lc1, hQ1, l1, y1, z1⟩, st1⟩ := X0.virtualBackUp hx (owner := xs3) (x := xm2) (y := xm1) hown (mvT hZ (tw8 hw)) (mvT hZ (tw9 hw)) (mvT hZ (tw10 hw)) (by decide) (mvT hZ (tw12 hw)) (mvT hZ (tw11 hw)) (backOf (W := 0) (rm_ord l Z a0 hw [] a1 (5 : Int32) h0 n0 Z0 F_ordinal_a1) hZ (tw14 hw) (tw13 hw) (by decide) (by decide)) q1a q1c (g := (mkF m 1 #[.val (.ref a1), .val (.long q2), .second, .val (.long q3), .second] [(.ref a1)])) rfl (by rw [hml]; rfl) (Steps.refl _) (argsL := []) (rest := []) (lenOf pd_0 rfl) rfl (by show 2 * 0 + _ ≤ _; exact Nat.le_of_eq rfl) (hb hby d1_1) (fun _ _ => ⟨rfl, e0, (by decide : 0 + 0 ≤ _), (by decide : 0 + 0 ≤ _)⟩)
  dsimp only [Pt.U, Pt.locs, Pt.cells, Pt.slots] at X1 l1 y1 z1 st1 hQ1
  subst l1 y1 z1
  obtain ⟨rfl, N1q, eq1⟩ := hQ1
  have N2 := Fr.app N0 N1q
  refine Go.step (fun _ k => st1.trans (XS.tswIn X1.here hx rfl (pc0 := 4) (pc' := 124) rfl (hb hby d1_4) rfl (by decide) rfl (by decide) (by decide) (XS.lloadN X1.here hx rfl (hb hby d1_124) rfl (XS.lloadN X1.here hx rfl (hb hby d1_125) rfl (XS.lcmp X1.here hx rfl (hb hby d1_126) rfl k))))) ?_
  show Go p e below s _ _ _ T1 (mkF m 127 #[.val (.ref a1), .val (.long q2), .second, .val (.long q3), .second] [(.int (lcmpW q2 q3))])
  by_cases hc : (lcmpW q2 q3) < (0 : Int32)
  · refine Go.step (fun _ k => XS.ifYes X1.here hx rfl (pc0 := 127) (pc' := 134) rfl (hb hby d1_127) rfl ((if0 _ _).trans (tlt hc).1) (by decide) (by decide) (XS.iconst X1.here hx rfl (hb hby d1_134) k)) ?_
    show Go p e below s _ _ _ T1 (mkF m 135 #[.val (.ref a1), .val (.long q2), .second, .val (.long q3), .second] [(.int (0 : Int32))])
    exact Go.retN X1 hx hlk (t := .boolean) Bd.returns (by simp) (hb hby d1_135) eq1 ⟨(by rw [own_b, if_neg (not_not_intro ((lw_lt _ _).mp hc))]; rfl), N2, rfl⟩ (by decide) (by decide)
  · refine Go.step (fun _ k => XS.ifNo X1.here hx rfl (hb hby d1_127) rfl ((if0 _ _).trans (flt hc).1) (XS.iconst X1.here hx rfl (hb hby d1_130) (XS.goto X1.here hx rfl (pc0 := 131) (pc' := 135) rfl (hb hby d1_131) (by decide) (by decide) k))) ?_
    show Go p e below s _ _ _ T1 (mkF m 135 #[.val (.ref a1), .val (.long q2), .second, .val (.long q3), .second] [(.int (1 : Int32))])
    exact Go.retN X1 hx hlk (t := .boolean) Bd.returns (by simp) (hb hby d1_135) eq1 ⟨(by rw [own_b, if_pos (fun q => hc ((lw_lt _ _).mpr q))]; rfl), N2, rfl⟩ (by decide) (by decide)

theorem ef_less (m : MethodId) (x0 : Int64) (x1 : Int64) : entryFrame m #[(.long x0), (.long x1)] 8 = mkF m 0 #[.val (.long x0), .second, .val (.long x1), .second, .unset, .unset, .unset, .unset] [] := by first | (simp [entryFrame, mkF, argsToLocals, Value.category]; done) | rfl
def Q_less (Z : State) (q2 : Int64) (q3 : Int64) (h0 : Heap) (n0 : Nat) (v : Option Value) (h : Heap) (L : List Loc) : Prop := v = some (.int (own_b (q2 < q3))) ∧ Fr n0 L ∧ h = h0
set_option maxRecDepth 65536 in
set_option maxHeartbeats 40000000 in
theorem rm_less (l : Launch) (Z : State) (a0 : Array Value) (hw : ∀ d ∈ tables_1, d.before a0 Z = true) (ws : List Jvm.Cond) (q2 : Int64) (q3 : Int64) (h0 : Heap) (n0 : Nat) (Z0 : n0 ≤ h0.size) :
    MetFree l xm0 (head1 (Jvm.Cond.code xm0 method_2_code 8 (some .boolean) :: ws) xr1) (fun a U => a = #[(.long q2), (.long q3)] ∧ Z.Warmed39 U.vm ∧ U.heap = h0) (fun _ _ _ _ _ => True) (fun _ U o U' => ∃ v L, o = .returned v ∧ Q_less Z q2 q3 h0 n0 v U'.heap L ∧ FrameEnd U o U' L xr1.cells xr1.slots) := by
  refine MetFree.of_bodySF (plainFor_of_name pn_2) hisR ?_
  intro p e s m args below meth c s₁ Bd hml0 hP hK
  obtain ⟨rfl, hZ, hh⟩ := hP
  have hx := Bd.exec
  have hby := Bd.bytes
  have hlk : meth.locks = false := BodyLoose.notSynchronized Bd
  have hml : c.maxLocals = 8 := hml0
  have hown : s.vm.findClass xs2 = some m.cls := findClass_of_methodNamed Bd.named
  have hnm := (name_of_methodNamed Bd.named Bd.method).1
  have X0 : Stand p l e xr1 s m #[(.long q2), (.long q3)] below meth c s₁ [] 0 0 := Stand.of_body Bd
  have e0 : s₁.heap = h0 := by rw [← hh, Bd.state]; rfl
  have N0 := Fr.nil n0
  show Go p e below s (Q_less Z q2 q3 h0 n0) xr1.cells xr1.slots s₁ (entryFrame m #[(.long q2), (.long q3)] 8)
  refine Go.cast (ef_less m q2 q3) ?_
  show Go p e below s _ _ _ s₁ (mkF m 0 #[.val (.long q2), .second, .val (.long q3), .second, .unset, .unset, .unset, .unset] [])
  refine Go.step (fun _ k => XS.lloadN X0.here hx rfl (hb hby d2_0) rfl (XS.bipush X0.here hx rfl (hb hby d2_1) (XS.lushr X0.here hx rfl (hb hby d2_3) rfl (XS.lstore X0.here hx rfl (hb hby d2_4) rfl (l' := #[.val (.long q2), .second, .val (.long q3), .second, .val (.long ((q2.toUInt64 >>> ((63 : Int32) &&& 0x3f).toInt64.toUInt64).toInt64)), .second, .unset, .unset]) rfl (XS.lloadN X0.here hx rfl (hb hby d2_6) rfl (XS.bipush X0.here hx rfl (hb hby d2_7) (XS.lushr X0.here hx rfl (hb hby d2_9) rfl (XS.lstore X0.here hx rfl (hb hby d2_10) rfl (l' := #[.val (.long q2), .second, .val (.long q3), .second, .val (.long ((q2.toUInt64 >>> ((63 : Int32) &&& 0x3f).toInt64.toUInt64).toInt64)), .second, .val (.long ((q3.toUInt64 >>> ((63 : Int32) &&& 0x3f).toInt64.toUInt64).toInt64)), .second]) rfl (XS.lload X0.here hx rfl (hb hby d2_12) rfl (XS.lload X0.here hx rfl (hb hby d2_14) rfl k)))))))))) ?_
  show Go p e below s _ _ _ s₁ (mkF m 16 #[.val (.long q2), .second, .val (.long q3), .second, .val (.long ((q2.toUInt64 >>> ((63 : Int32) &&& 0x3f).toInt64.toUInt64).toInt64)), .second, .val (.long ((q3.toUInt64 >>> ((63 : Int32) &&& 0x3f).toInt64.toUInt64).toInt64)), .second] [(.long ((q3.toUInt64 >>> ((63 : Int32) &&& 0x3f).toInt64.toUInt64).toInt64)), (.long ((q2.toUInt64 >>> ((63 : Int32) &&& 0x3f).toInt64.toUInt64).toInt64))])
  refine Go.step (fun _ k => XS.lcmp X0.here hx rfl (hb hby d2_16) rfl k) ?_
  show Go p e below s _ _ _ s₁ (mkF m 17 #[.val (.long q2), .second, .val (.long q3), .second, .val (.long ((q2.toUInt64 >>> ((63 : Int32) &&& 0x3f).toInt64.toUInt64).toInt64)), .second, .val (.long ((q3.toUInt64 >>> ((63 : Int32) &&& 0x3f).toInt64.toUInt64).toInt64)), .second] [(.int (lcmpW ((q2.toUInt64 >>> ((63 : Int32) &&& 0x3f).toInt64.toUInt64).toInt64) ((q3.toUInt64 >>> ((63 : Int32) &&& 0x3f).toInt64.toUInt64).toInt64)))])
  by_cases hc1 : (lcmpW ((q2.toUInt64 >>> ((63 : Int32) &&& 0x3f).toInt64.toUInt64).toInt64) ((q3.toUInt64 >>> ((63 : Int32) &&& 0x3f).toInt64.toUInt64).toInt64)) = (0 : Int32)
  · refine Go.step (fun _ k => XS.ifYes X0.here hx rfl (pc0 := 17) (pc' := 33) rfl (hb hby d2_17) rfl ((if0 _ _).trans (teq hc1).1) (by decide) (by decide) (XS.lloadN X0.here hx rfl (hb hby d2_33) rfl (XS.lloadN X0.here hx rfl (hb hby d2_34) rfl (XS.lsub X0.here hx rfl (hb hby d2_35) rfl (XS.bipush X0.here hx rfl (hb hby d2_36) (XS.lushr X0.here hx rfl (hb hby d2_38) rfl (XS.lconst X0.here hx rfl (hb hby d2_39) (XS.lcmp X0.here hx rfl (hb hby d2_40) rfl k)))))))) ?_
    show Go p e below s _ _ _ s₁ (mkF m 41 #[.val (.long q2), .second, .val (.long q3), .second, .val (.long ((q2.toUInt64 >>> ((63 : Int32) &&& 0x3f).toInt64.toUInt64).toInt64)), .second, .val (.long ((q3.toUInt64 >>> ((63 : Int32) &&& 0x3f).toInt64.toUInt64).toInt64)), .second] [(.int (lcmpW (((q2 - q3).toUInt64 >>> ((63 : Int32) &&& 0x3f).toInt64.toUInt64).toInt64) (1 : Int64)))])
    by_cases hc2 : (lcmpW (((q2 - q3).toUInt64 >>> ((63 : Int32) &&& 0x3f).toInt64.toUInt64).toInt64) (1 : Int64)) = (0 : Int32)
    · refine Go.step (fun _ k => XS.ifNo X0.here hx rfl (hb hby d2_41) rfl ((if0 _ _).trans (teq hc2).2) (XS.iconst X0.here hx rfl (hb hby d2_44) (XS.goto X0.here hx rfl (pc0 := 45) (pc' := 49) rfl (hb hby d2_45) (by decide) (by decide) k))) ?_
      show Go p e below s _ _ _ s₁ (mkF m 49 #[.val (.long q2), .second, .val (.long q3), .second, .val (.long ((q2.toUInt64 >>> ((63 : Int32) &&& 0x3f).toInt64.toUInt64).toInt64)), .second, .val (.long ((q3.toUInt64 >>> ((63 : Int32) &&& 0x3f).toInt64.toUInt64).toInt64)), .second] [(.int (1 : Int32))])
      exact Go.retN X0 hx hlk (t := .boolean) Bd.returns (by simp) (hb hby d2_49) e0 ⟨(by rw [own_b, if_pos ((own_lr3 q2 q3 ((own_sgnE q2 q3).mp ((lw_eq _ _).mp hc1))).mp ((own_sgn1 _).mp ((lw_eq _ _).mp hc2)))]; rfl), N0, rfl⟩ (by decide) (by decide)
    · refine Go.step (fun _ k => XS.ifYes X0.here hx rfl (pc0 := 41) (pc' := 48) rfl (hb hby d2_41) rfl ((if0 _ _).trans (feq hc2).2) (by decide) (by decide) (XS.iconst X0.here hx rfl (hb hby d2_48) k)) ?_
      show Go p e below s _ _ _ s₁ (mkF m 49 #[.val (.long q2), .second, .val (.long q3), .second, .val (.long ((q2.toUInt64 >>> ((63 : Int32) &&& 0x3f).toInt64.toUInt64).toInt64)), .second, .val (.long ((q3.toUInt64 >>> ((63 : Int32) &&& 0x3f).toInt64.toUInt64).toInt64)), .second] [(.int (0 : Int32))])
      exact Go.retN X0 hx hlk (t := .boolean) Bd.returns (by simp) (hb hby d2_49) e0 ⟨(by rw [own_b, if_neg (fun q => hc2 ((lw_eq _ _).mpr ((own_sgn1 _).mpr ((own_lr3 q2 q3 ((own_sgnE q2 q3).mp ((lw_eq _ _).mp hc1))).mpr q))))]; rfl), N0, rfl⟩ (by decide) (by decide)
  · refine Go.step (fun _ k => XS.ifNo X0.here hx rfl (hb hby d2_17) rfl ((if0 _ _).trans (feq hc1).1) (XS.lload X0.here hx rfl (hb hby d2_20) rfl (XS.lconst X0.here hx rfl (hb hby d2_22) (XS.lcmp X0.here hx rfl (hb hby d2_23) rfl k)))) ?_
    show Go p e below s _ _ _ s₁ (mkF m 24 #[.val (.long q2), .second, .val (.long q3), .second, .val (.long ((q2.toUInt64 >>> ((63 : Int32) &&& 0x3f).toInt64.toUInt64).toInt64)), .second, .val (.long ((q3.toUInt64 >>> ((63 : Int32) &&& 0x3f).toInt64.toUInt64).toInt64)), .second] [(.int (lcmpW ((q2.toUInt64 >>> ((63 : Int32) &&& 0x3f).toInt64.toUInt64).toInt64) (1 : Int64)))])
    by_cases hc2 : (lcmpW ((q2.toUInt64 >>> ((63 : Int32) &&& 0x3f).toInt64.toUInt64).toInt64) (1 : Int64)) = (0 : Int32)
    · refine Go.step (fun _ k => XS.ifNo X0.here hx rfl (hb hby d2_24) rfl ((if0 _ _).trans (teq hc2).2) (XS.iconst X0.here hx rfl (hb hby d2_27) (XS.goto X0.here hx rfl (pc0 := 28) (pc' := 32) rfl (hb hby d2_28) (by decide) (by decide) k))) ?_
      show Go p e below s _ _ _ s₁ (mkF m 32 #[.val (.long q2), .second, .val (.long q3), .second, .val (.long ((q2.toUInt64 >>> ((63 : Int32) &&& 0x3f).toInt64.toUInt64).toInt64)), .second, .val (.long ((q3.toUInt64 >>> ((63 : Int32) &&& 0x3f).toInt64.toUInt64).toInt64)), .second] [(.int (1 : Int32))])
      exact Go.retN X0 hx hlk (t := .boolean) Bd.returns (by simp) (hb hby d2_32) e0 ⟨(by rw [own_b, if_pos (own_lr1 q2 q3 (fun q => hc1 ((lw_eq _ _).mpr ((own_sgnE q2 q3).mpr q))) ((own_sgn1 q2).mp ((lw_eq _ _).mp hc2)))]; rfl), N0, rfl⟩ (by decide) (by decide)
    · refine Go.step (fun _ k => XS.ifYes X0.here hx rfl (pc0 := 24) (pc' := 31) rfl (hb hby d2_24) rfl ((if0 _ _).trans (feq hc2).2) (by decide) (by decide) (XS.iconst X0.here hx rfl (hb hby d2_31) k)) ?_
      show Go p e below s _ _ _ s₁ (mkF m 32 #[.val (.long q2), .second, .val (.long q3), .second, .val (.long ((q2.toUInt64 >>> ((63 : Int32) &&& 0x3f).toInt64.toUInt64).toInt64)), .second, .val (.long ((q3.toUInt64 >>> ((63 : Int32) &&& 0x3f).toInt64.toUInt64).toInt64)), .second] [(.int (0 : Int32))])
      exact Go.retN X0 hx hlk (t := .boolean) Bd.returns (by simp) (hb hby d2_32) e0 ⟨(by rw [own_b, if_neg (own_lr2 q2 q3 (fun q => hc1 ((lw_eq _ _).mpr ((own_sgnE q2 q3).mpr q))) (fun q => hc2 ((lw_eq _ _).mpr ((own_sgn1 q2).mpr q))))]; rfl), N0, rfl⟩ (by decide) (by decide)

theorem ef_one (m : MethodId) (x0 : Int32) : entryFrame m #[(.int x0)] 1 = mkF m 0 #[.val (.int x0)] [] := by first | (simp [entryFrame, mkF, argsToLocals, Value.category]; done) | rfl
def Q_one (Z : State) (p1 : Int32) (h0 : Heap) (n0 : Nat) (v : Option Value) (h : Heap) (L : List Loc) : Prop := v = some (.int (own_one p1)) ∧ Fr n0 L ∧ h = h0
set_option maxRecDepth 65536 in
set_option maxHeartbeats 40000000 in
theorem rm_one (l : Launch) (Z : State) (a0 : Array Value) (hw : ∀ d ∈ tables_1, d.before a0 Z = true) (ws : List Jvm.Cond) (p1 : Int32) (h0 : Heap) (n0 : Nat) (Z0 : n0 ≤ h0.size) :
    MetFree l xm4 (head1 (Jvm.Cond.code xm4 method_3_code 1 (some .int) :: ws) xr1) (fun a U => a = #[(.int p1)] ∧ Z.Warmed39 U.vm ∧ U.heap = h0) (fun _ _ _ _ _ => True) (fun _ U o U' => ∃ v L, o = .returned v ∧ Q_one Z p1 h0 n0 v U'.heap L ∧ FrameEnd U o U' L xr1.cells xr1.slots) := by
  refine MetFree.of_bodySF (plainFor_of_name pn_2) hisR ?_
  intro p e s m args below meth c s₁ Bd hml0 hP hK
  obtain ⟨rfl, hZ, hh⟩ := hP
  have hx := Bd.exec
  have hby := Bd.bytes
  have hlk : meth.locks = false := BodyLoose.notSynchronized Bd
  have hml : c.maxLocals = 1 := hml0
  have hown : s.vm.findClass xs2 = some m.cls := findClass_of_methodNamed Bd.named
  have hnm := (name_of_methodNamed Bd.named Bd.method).1
  have X0 : Stand p l e xr1 s m #[(.int p1)] below meth c s₁ [] 0 0 := Stand.of_body Bd
  have e0 : s₁.heap = h0 := by rw [← hh, Bd.state]; rfl
  have N0 := Fr.nil n0
  show Go p e below s (Q_one Z p1 h0 n0) xr1.cells xr1.slots s₁ (entryFrame m #[(.int p1)] 1)
  refine Go.cast (ef_one m p1) ?_
  show Go p e below s _ _ _ s₁ (mkF m 0 #[.val (.int p1)] [])
  refine Go.step (fun _ k => XS.iloadN X0.here hx rfl (hb hby d3_0) rfl k) ?_
  show Go p e below s _ _ _ s₁ (mkF m 1 #[.val (.int p1)] [(.int p1)])
  by_cases hc : p1 = (0 : Int32)
  · refine Go.step (fun _ k => XS.ifYes X0.here hx rfl (pc0 := 1) (pc' := 8) rfl (hb hby d3_1) rfl ((if0 _ _).trans (teq hc).1) (by decide) (by decide) (XS.iconst X0.here hx rfl (hb hby d3_8) k)) ?_
    show Go p e below s _ _ _ s₁ (mkF m 9 #[.val (.int p1)] [(.int (0 : Int32))])
    exact Go.retI X0 hx hlk Bd.returns (hb hby d3_9) e0 ⟨(by rw [own_one, if_pos hc]), N0, rfl⟩ (by decide) (by decide)
  · refine Go.step (fun _ k => XS.ifNo X0.here hx rfl (hb hby d3_1) rfl ((if0 _ _).trans (feq hc).1) (XS.iconst X0.here hx rfl (hb hby d3_4) (XS.goto X0.here hx rfl (pc0 := 5) (pc' := 9) rfl (hb hby d3_5) (by decide) (by decide) k))) ?_
    show Go p e below s _ _ _ s₁ (mkF m 9 #[.val (.int p1)] [(.int (1 : Int32))])
    exact Go.retI X0 hx hlk Bd.returns (hb hby d3_9) e0 ⟨(by rw [own_one, if_neg hc]), N0, rfl⟩ (by decide) (by decide)

theorem ef_law (m : MethodId) (x0 : Int64) (x1 : Int64) (x2 : Int32) : entryFrame m #[(.long x0), (.long x1), (.int x2)] maxLocals = mkF m 0 #[.val (.long x0), .second, .val (.long x1), .second, .val (.int x2), .unset, .unset, .unset, .unset, .unset, .unset, .unset, .unset, .unset, .unset, .unset] [] := by first | (simp [entryFrame, mkF, argsToLocals, Value.category, maxLocals]; done) | rfl
def Q_law (Z : State) (q1 : Int64) (q2 : Int64) (p3 : Int32) (b0 : Addr) (b1 : Addr) (b2 : Addr) (b3 : Addr) (b4 : Addr) (b5 : Addr) (h0 : Heap) (n0 : Nat) (v : Option Value) (h : Heap) (L : List Loc) : Prop := v = some (.int (1 : Int32)) ∧ Fr n0 L
set_option maxRecDepth 65536 in
set_option maxHeartbeats 40000000 in
theorem rm_law (l : Launch) (Z : State) (a0 : Array Value) (hw : ∀ d ∈ tables_1, d.before a0 Z = true) (ws : List Jvm.Cond) (q1 : Int64) (q2 : Int64) (p3 : Int32) (b0 : Addr) (b1 : Addr) (b2 : Addr) (b3 : Addr) (b4 : Addr) (b5 : Addr) (h0 : Heap) (n0 : Nat) (Z0 : n0 ≤ h0.size) (S_EQUAL : Sta Z h0 xs1 "EQUAL" xs0 (.ref b0)) (E_b0 : Exa Z h0 b0 xs1) (F_ordinal_b0 : Fld Z h0 b0 xs3 "ordinal" "I" (.int (0 : Int32))) (S_NOT_EQUAL : Sta Z h0 xs1 "NOT_EQUAL" xs0 (.ref b1)) (E_b1 : Exa Z h0 b1 xs1) (F_ordinal_b1 : Fld Z h0 b1 xs3 "ordinal" "I" (.int (1 : Int32))) (S_LESS : Sta Z h0 xs1 "LESS" xs0 (.ref b2)) (E_b2 : Exa Z h0 b2 xs1) (F_ordinal_b2 : Fld Z h0 b2 xs3 "ordinal" "I" (.int (2 : Int32))) (S_LESS_OR_EQUAL : Sta Z h0 xs1 "LESS_OR_EQUAL" xs0 (.ref b3)) (E_b3 : Exa Z h0 b3 xs1) (F_ordinal_b3 : Fld Z h0 b3 xs3 "ordinal" "I" (.int (3 : Int32))) (S_GREATER : Sta Z h0 xs1 "GREATER" xs0 (.ref b4)) (E_b4 : Exa Z h0 b4 xs1) (F_ordinal_b4 : Fld Z h0 b4 xs3 "ordinal" "I" (.int (4 : Int32))) (S_GREATER_OR_EQUAL : Sta Z h0 xs1 "GREATER_OR_EQUAL" xs0 (.ref b5)) (E_b5 : Exa Z h0 b5 xs1) (F_ordinal_b5 : Fld Z h0 b5 xs3 "ordinal" "I" (.int (5 : Int32))) :
    MetFree l x (head1 (Jvm.Cond.code x code maxLocals ret :: ws) room_1) (fun a U => a = #[(.long q1), (.long q2), (.int p3)] ∧ Z.Warmed39 U.vm ∧ U.heap = h0) (fun _ _ _ _ _ => True) (fun _ U o U' => ∃ v L, o = .returned v ∧ Q_law Z q1 q2 p3 b0 b1 b2 b3 b4 b5 h0 n0 v U'.heap L ∧ FrameEnd U o U' L room_1.cells room_1.slots) := by
  refine MetFree.of_bodySF (plainFor_of_name pn_2) hisR ?_
  intro p e s m args below meth c s₁ Bd hml0 hP hK
  obtain ⟨rfl, hZ, hh⟩ := hP
  have hx := Bd.exec
  have hby := Bd.bytes
  have hlk : meth.locks = false := BodyLoose.notSynchronized Bd
  have hml : c.maxLocals = 16 := hml0
  have hown : s.vm.findClass xs2 = some m.cls := findClass_of_methodNamed Bd.named
  have hnm := (name_of_methodNamed Bd.named Bd.method).1
  have X0 : Stand p l e room_1 s m #[(.long q1), (.long q2), (.int p3)] below meth c s₁ [] 0 0 := Stand.of_body Bd
  have e0 : s₁.heap = h0 := by rw [← hh, Bd.state]; rfl
  have N0 := Fr.nil n0
  show Go p e below s (Q_law Z q1 q2 p3 b0 b1 b2 b3 b4 b5 h0 n0) room_1.cells room_1.slots s₁ (entryFrame m #[(.long q1), (.long q2), (.int p3)] maxLocals)
  refine Go.cast (ef_law m q1 q2 p3) ?_
  show Go p e below s _ _ _ s₁ (mkF m 0 #[.val (.long q1), .second, .val (.long q2), .second, .val (.int p3), .unset, .unset, .unset, .unset, .unset, .unset, .unset, .unset, .unset, .unset, .unset] [])
  have J : ∀ (md : Int32) (rr : Int64), Go p e below s (Q_law Z q1 q2 p3 b0 b1 b2 b3 b4 b5 h0 n0) room_1.cells room_1.slots s₁ (mkF m 49 #[.val (.long q1), .second, .val (.long q2), .second, .val (.int p3), .val (.int md), .val (.long rr), .second, .unset, .unset, .unset, .unset, .unset, .unset, .unset, .unset] []) := by
    intro md rr
    rcases own_tri q1 rr with ⟨h1, h2, h3⟩ | ⟨h1, h2, h3⟩ | ⟨h1, h2, h3⟩
    · obtain ⟨T1, X1, e1, st1⟩ := getS2 X0 hx hZ hown (host := "") (Or.inl (tw0 hw)) Via.refl e0 S_EQUAL (g := (mkF m 49 #[.val (.long q1), .second, .val (.long q2), .second, .val (.int p3), .val (.int md), .val (.long rr), .second, .unset, .unset, .unset, .unset, .unset, .unset, .unset, .unset] [])) rfl (hb hby at_49)
      refine Go.step (fun _ k => st1 _ (XS.lloadN X1.here hx rfl (hb hby at_52) rfl (XS.lload X1.here hx rfl (hb hby at_53) rfl k))) ?_
      show Go p e below s _ _ _ T1 (mkF m 55 #[.val (.long q1), .second, .val (.long q2), .second, .val (.int p3), .val (.int md), .val (.long rr), .second, .unset, .unset, .unset, .unset, .unset, .unset, .unset, .unset] [(.long rr), (.long q1), (.ref b0)])
      obtain ⟨cq2, kq2, q2a, q2b, q2c⟩ := isOf hZ e1 E_b0
      obtain ⟨_, _, ⟨T2, L2, k2, n2⟩, -, X2, ⟨Lc2, hQ2, l2, y2, z2⟩, st2⟩ := X1.virtualBack hx (y := xm3) (z := xm3) hown (mvT hZ (tw3 hw)) (mvT hZ (tw4 hw)) (notFace_of_selects (args := #[]) (mvT hZ (tw6 hw))) (mvT hZ (tw6 hw)) (mvT hZ (tw5 hw)) (by decide) (backOf (W := 0) (rm_test0 l Z a0 hw [] b0 q1 rr h0 n0 Z0 E_b0 F_ordinal_b0) hZ (tw7 hw) (tw1 hw) (by decide) (by decide)) q2a q2c (g := (mkF m 55 #[.val (.long q1), .second, .val (.long q2), .second, .val (.int p3), .val (.int md), .val (.long rr), .second, .unset, .unset, .unset, .unset, .unset, .unset, .unset, .unset] [(.long rr), (.long q1), (.ref b0)])) rfl (by rw [hml]; rfl) (Steps.refl _) (argsL := [(.long q1), (.long rr)]) (rest := []) (lenOf pd_1 rfl) rfl (by show 2 * 0 + _ ≤ _; exact Nat.le_of_eq rfl) (hb hby at_55) (fun _ _ => ⟨rfl, e1, (by decide : 0 + 0 ≤ _), (by decide : 0 + 0 ≤ _)⟩)
      dsimp only [Pt.U, Pt.locs, Pt.cells, Pt.slots] at X2 l2 y2 z2 st2 hQ2
      subst l2 y2 z2
      obtain ⟨rfl, N2q, eq2⟩ := hQ2
      have N3 := Fr.app N0 N2q
      refine Go.step (fun _ k => st2.trans k) ?_
      show Go p e below s _ _ _ T2 (mkF m 58 #[.val (.long q1), .second, .val (.long q2), .second, .val (.int p3), .val (.int md), .val (.long rr), .second, .unset, .unset, .unset, .unset, .unset, .unset, .unset, .unset] [(.int (own_b (q1 = rr)))])
      rw [show (own_b (q1 = rr)) = (1 : Int32) from if_pos h1]
      refine Go.step (fun _ k => XS.istore X2.here hx rfl (hb hby at_58) rfl (l' := #[.val (.long q1), .second, .val (.long q2), .second, .val (.int p3), .val (.int md), .val (.long rr), .second, .val (.int (1 : Int32)), .unset, .unset, .unset, .unset, .unset, .unset, .unset]) rfl k) ?_
      show Go p e below s _ _ _ T2 (mkF m 60 #[.val (.long q1), .second, .val (.long q2), .second, .val (.int p3), .val (.int md), .val (.long rr), .second, .val (.int (1 : Int32)), .unset, .unset, .unset, .unset, .unset, .unset, .unset] [])
      obtain ⟨T4, X4, e4, st4⟩ := getS2 X2 hx hZ hown (host := "") (Or.inl (tw17 hw)) Via.refl eq2 S_NOT_EQUAL (g := (mkF m 60 #[.val (.long q1), .second, .val (.long q2), .second, .val (.int p3), .val (.int md), .val (.long rr), .second, .val (.int (1 : Int32)), .unset, .unset, .unset, .unset, .unset, .unset, .unset] [])) rfl (hb hby at_60)
      refine Go.step (fun _ k => st4 _ (XS.lloadN X4.here hx rfl (hb hby at_63) rfl (XS.lload X4.here hx rfl (hb hby at_64) rfl k))) ?_
      show Go p e below s _ _ _ T4 (mkF m 66 #[.val (.long q1), .second, .val (.long q2), .second, .val (.int p3), .val (.int md), .val (.long rr), .second, .val (.int (1 : Int32)), .unset, .unset, .unset, .unset, .unset, .unset, .unset] [(.long rr), (.long q1), (.ref b1)])
      obtain ⟨cq5, kq5, q5a, q5b, q5c⟩ := isOf hZ e4 E_b1
      obtain ⟨_, _, ⟨T5, L5, k5, n5⟩, -, X5, ⟨Lc5, hQ5, l5, y5, z5⟩, st5⟩ := X4.virtualBack hx (y := xm3) (z := xm3) hown (mvT hZ (tw3 hw)) (mvT hZ (tw4 hw)) (notFace_of_selects (args := #[]) (mvT hZ (tw6 hw))) (mvT hZ (tw6 hw)) (mvT hZ (tw5 hw)) (by decide) (backOf (W := 0) (rm_test1 l Z a0 hw [] b1 q1 rr h0 n0 Z0 E_b1 F_ordinal_b1) hZ (tw7 hw) (tw1 hw) (by decide) (by decide)) q5a q5c (g := (mkF m 66 #[.val (.long q1), .second, .val (.long q2), .second, .val (.int p3), .val (.int md), .val (.long rr), .second, .val (.int (1 : Int32)), .unset, .unset, .unset, .unset, .unset, .unset, .unset] [(.long rr), (.long q1), (.ref b1)])) rfl (by rw [hml]; rfl) (Steps.refl _) (argsL := [(.long q1), (.long rr)]) (rest := []) (lenOf pd_1 rfl) rfl (by show 2 * 0 + _ ≤ _; exact Nat.le_of_eq rfl) (hb hby at_66) (fun _ _ => ⟨rfl, e4, (by decide : 0 + 0 ≤ _), (by decide : 0 + 0 ≤ _)⟩)
      dsimp only [Pt.U, Pt.locs, Pt.cells, Pt.slots] at X5 l5 y5 z5 st5 hQ5
      subst l5 y5 z5
      obtain ⟨rfl, N5q, eq5⟩ := hQ5
      have N6 := Fr.app N3 N5q
      refine Go.step (fun _ k => st5.trans k) ?_
      show Go p e below s _ _ _ T5 (mkF m 69 #[.val (.long q1), .second, .val (.long q2), .second, .val (.int p3), .val (.int md), .val (.long rr), .second, .val (.int (1 : Int32)), .unset, .unset, .unset, .unset, .unset, .unset, .unset] [(.int (own_b (¬ q1 = rr)))])
      rw [show (own_b (¬ q1 = rr)) = (0 : Int32) from if_neg (not_not_intro h1)]
      refine Go.step (fun _ k => XS.istore X5.here hx rfl (hb hby at_69) rfl (l' := #[.val (.long q1), .second, .val (.long q2), .second, .val (.int p3), .val (.int md), .val (.long rr), .second, .val (.int (1 : Int32)), .val (.int (0 : Int32)), .unset, .unset, .unset, .unset, .unset, .unset]) rfl k) ?_
      show Go p e below s _ _ _ T5 (mkF m 71 #[.val (.long q1), .second, .val (.long q2), .second, .val (.int p3), .val (.int md), .val (.long rr), .second, .val (.int (1 : Int32)), .val (.int (0 : Int32)), .unset, .unset, .unset, .unset, .unset, .unset] [])
      obtain ⟨T7, X7, e7, st7⟩ := getS2 X5 hx hZ hown (host := "") (Or.inl (tw19 hw)) Via.refl eq5 S_LESS (g := (mkF m 71 #[.val (.long q1), .second, .val (.long q2), .second, .val (.int p3), .val (.int md), .val (.long rr), .second, .val (.int (1 : Int32)), .val (.int (0 : Int32)), .unset, .unset, .unset, .unset, .unset, .unset] [])) rfl (hb hby at_71)
      refine Go.step (fun _ k => st7 _ (XS.lloadN X7.here hx rfl (hb hby at_74) rfl (XS.lload X7.here hx rfl (hb hby at_75) rfl k))) ?_
      show Go p e below s _ _ _ T7 (mkF m 77 #[.val (.long q1), .second, .val (.long q2), .second, .val (.int p3), .val (.int md), .val (.long rr), .second, .val (.int (1 : Int32)), .val (.int (0 : Int32)), .unset, .unset, .unset, .unset, .unset, .unset] [(.long rr), (.long q1), (.ref b2)])
      obtain ⟨cq8, kq8, q8a, q8b, q8c⟩ := isOf hZ e7 E_b2
      obtain ⟨_, _, ⟨T8, L8, k8, n8⟩, -, X8, ⟨Lc8, hQ8, l8, y8, z8⟩, st8⟩ := X7.virtualBack hx (y := xm3) (z := xm3) hown (mvT hZ (tw3 hw)) (mvT hZ (tw4 hw)) (notFace_of_selects (args := #[]) (mvT hZ (tw6 hw))) (mvT hZ (tw6 hw)) (mvT hZ (tw5 hw)) (by decide) (backOf (W := 0) (rm_test2 l Z a0 hw [] b2 q1 rr h0 n0 Z0 E_b2 F_ordinal_b2) hZ (tw7 hw) (tw1 hw) (by decide) (by decide)) q8a q8c (g := (mkF m 77 #[.val (.long q1), .second, .val (.long q2), .second, .val (.int p3), .val (.int md), .val (.long rr), .second, .val (.int (1 : Int32)), .val (.int (0 : Int32)), .unset, .unset, .unset, .unset, .unset, .unset] [(.long rr), (.long q1), (.ref b2)])) rfl (by rw [hml]; rfl) (Steps.refl _) (argsL := [(.long q1), (.long rr)]) (rest := []) (lenOf pd_1 rfl) rfl (by show 2 * 0 + _ ≤ _; exact Nat.le_of_eq rfl) (hb hby at_77) (fun _ _ => ⟨rfl, e7, (by decide : 0 + 0 ≤ _), (by decide : 0 + 0 ≤ _)⟩)
      dsimp only [Pt.U, Pt.locs, Pt.cells, Pt.slots] at X8 l8 y8 z8 st8 hQ8
      subst l8 y8 z8
      obtain ⟨rfl, N8q, eq8⟩ := hQ8
      have N9 := Fr.app N6 N8q
      refine Go.step (fun _ k => st8.trans k) ?_
      show Go p e below s _ _ _ T8 (mkF m 80 #[.val (.long q1), .second, .val (.long q2), .second, .val (.int p3), .val (.int md), .val (.long rr), .second, .val (.int (1 : Int32)), .val (.int (0 : Int32)), .unset, .unset, .unset, .unset, .unset, .unset] [(.int (own_b (q1 < rr)))])
      rw [show (own_b (q1 < rr)) = (0 : Int32) from if_neg h2]
      refine Go.step (fun _ k => XS.istore X8.here hx rfl (hb hby at_80) rfl (l' := #[.val (.long q1), .second, .val (.long q2), .second, .val (.int p3), .val (.int md), .val (.long rr), .second, .val (.int (1 : Int32)), .val (.int (0 : Int32)), .val (.int (0 : Int32)), .unset, .unset, .unset, .unset, .unset]) rfl k) ?_
      show Go p e below s _ _ _ T8 (mkF m 82 #[.val (.long q1), .second, .val (.long q2), .second, .val (.int p3), .val (.int md), .val (.long rr), .second, .val (.int (1 : Int32)), .val (.int (0 : Int32)), .val (.int (0 : Int32)), .unset, .unset, .unset, .unset, .unset] [])
      obtain ⟨T10, X10, e10, st10⟩ := getS2 X8 hx hZ hown (host := "") (Or.inl (tw21 hw)) Via.refl eq8 S_LESS_OR_EQUAL (g := (mkF m 82 #[.val (.long q1), .second, .val (.long q2), .second, .val (.int p3), .val (.int md), .val (.long rr), .second, .val (.int (1 : Int32)), .val (.int (0 : Int32)), .val (.int (0 : Int32)), .unset, .unset, .unset, .unset, .unset] [])) rfl (hb hby at_82)
      refine Go.step (fun _ k => st10 _ (XS.lloadN X10.here hx rfl (hb hby at_85) rfl (XS.lload X10.here hx rfl (hb hby at_86) rfl k))) ?_
      show Go p e below s _ _ _ T10 (mkF m 88 #[.val (.long q1), .second, .val (.long q2), .second, .val (.int p3), .val (.int md), .val (.long rr), .second, .val (.int (1 : Int32)), .val (.int (0 : Int32)), .val (.int (0 : Int32)), .unset, .unset, .unset, .unset, .unset] [(.long rr), (.long q1), (.ref b3)])
      obtain ⟨cq11, kq11, q11a, q11b, q11c⟩ := isOf hZ e10 E_b3
      obtain ⟨_, _, ⟨T11, L11, k11, n11⟩, -, X11, ⟨Lc11, hQ11, l11, y11, z11⟩, st11⟩ := X10.virtualBack hx (y := xm3) (z := xm3) hown (mvT hZ (tw3 hw)) (mvT hZ (tw4 hw)) (notFace_of_selects (args := #[]) (mvT hZ (tw6 hw))) (mvT hZ (tw6 hw)) (mvT hZ (tw5 hw)) (by decide) (backOf (W := 0) (rm_test3 l Z a0 hw [] b3 q1 rr h0 n0 Z0 E_b3 F_ordinal_b3) hZ (tw7 hw) (tw1 hw) (by decide) (by decide)) q11a q11c (g := (mkF m 88 #[.val (.long q1), .second, .val (.long q2), .second, .val (.int p3), .val (.int md), .val (.long rr), .second, .val (.int (1 : Int32)), .val (.int (0 : Int32)), .val (.int (0 : Int32)), .unset, .unset, .unset, .unset, .unset] [(.long rr), (.long q1), (.ref b3)])) rfl (by rw [hml]; rfl) (Steps.refl _) (argsL := [(.long q1), (.long rr)]) (rest := []) (lenOf pd_1 rfl) rfl (by show 2 * 0 + _ ≤ _; exact Nat.le_of_eq rfl) (hb hby at_88) (fun _ _ => ⟨rfl, e10, (by decide : 0 + 0 ≤ _), (by decide : 0 + 0 ≤ _)⟩)
      dsimp only [Pt.U, Pt.locs, Pt.cells, Pt.slots] at X11 l11 y11 z11 st11 hQ11
      subst l11 y11 z11
      obtain ⟨rfl, N11q, eq11⟩ := hQ11
      have N12 := Fr.app N9 N11q
      refine Go.step (fun _ k => st11.trans k) ?_
      show Go p e below s _ _ _ T11 (mkF m 91 #[.val (.long q1), .second, .val (.long q2), .second, .val (.int p3), .val (.int md), .val (.long rr), .second, .val (.int (1 : Int32)), .val (.int (0 : Int32)), .val (.int (0 : Int32)), .unset, .unset, .unset, .unset, .unset] [(.int (own_b (¬ rr < q1)))])
      rw [show (own_b (¬ rr < q1)) = (1 : Int32) from if_pos h3]
      refine Go.step (fun _ k => XS.istore X11.here hx rfl (hb hby at_91) rfl (l' := #[.val (.long q1), .second, .val (.long q2), .second, .val (.int p3), .val (.int md), .val (.long rr), .second, .val (.int (1 : Int32)), .val (.int (0 : Int32)), .val (.int (0 : Int32)), .val (.int (1 : Int32)), .unset, .unset, .unset, .unset]) rfl k) ?_
      show Go p e below s _ _ _ T11 (mkF m 93 #[.val (.long q1), .second, .val (.long q2), .second, .val (.int p3), .val (.int md), .val (.long rr), .second, .val (.int (1 : Int32)), .val (.int (0 : Int32)), .val (.int (0 : Int32)), .val (.int (1 : Int32)), .unset, .unset, .unset, .unset] [])
      obtain ⟨T13, X13, e13, st13⟩ := getS2 X11 hx hZ hown (host := "") (Or.inl (tw23 hw)) Via.refl eq11 S_GREATER (g := (mkF m 93 #[.val (.long q1), .second, .val (.long q2), .second, .val (.int p3), .val (.int md), .val (.long rr), .second, .val (.int (1 : Int32)), .val (.int (0 : Int32)), .val (.int (0 : Int32)), .val (.int (1 : Int32)), .unset, .unset, .unset, .unset] [])) rfl (hb hby at_93)
      refine Go.step (fun _ k => st13 _ (XS.lloadN X13.here hx rfl (hb hby at_96) rfl (XS.lload X13.here hx rfl (hb hby at_97) rfl k))) ?_
      show Go p e below s _ _ _ T13 (mkF m 99 #[.val (.long q1), .second, .val (.long q2), .second, .val (.int p3), .val (.int md), .val (.long rr), .second, .val (.int (1 : Int32)), .val (.int (0 : Int32)), .val (.int (0 : Int32)), .val (.int (1 : Int32)), .unset, .unset, .unset, .unset] [(.long rr), (.long q1), (.ref b4)])
      obtain ⟨cq14, kq14, q14a, q14b, q14c⟩ := isOf hZ e13 E_b4
      obtain ⟨_, _, ⟨T14, L14, k14, n14⟩, -, X14, ⟨Lc14, hQ14, l14, y14, z14⟩, st14⟩ := X13.virtualBack hx (y := xm3) (z := xm3) hown (mvT hZ (tw3 hw)) (mvT hZ (tw4 hw)) (notFace_of_selects (args := #[]) (mvT hZ (tw6 hw))) (mvT hZ (tw6 hw)) (mvT hZ (tw5 hw)) (by decide) (backOf (W := 0) (rm_test4 l Z a0 hw [] b4 q1 rr h0 n0 Z0 E_b4 F_ordinal_b4) hZ (tw7 hw) (tw1 hw) (by decide) (by decide)) q14a q14c (g := (mkF m 99 #[.val (.long q1), .second, .val (.long q2), .second, .val (.int p3), .val (.int md), .val (.long rr), .second, .val (.int (1 : Int32)), .val (.int (0 : Int32)), .val (.int (0 : Int32)), .val (.int (1 : Int32)), .unset, .unset, .unset, .unset] [(.long rr), (.long q1), (.ref b4)])) rfl (by rw [hml]; rfl) (Steps.refl _) (argsL := [(.long q1), (.long rr)]) (rest := []) (lenOf pd_1 rfl) rfl (by show 2 * 0 + _ ≤ _; exact Nat.le_of_eq rfl) (hb hby at_99) (fun _ _ => ⟨rfl, e13, (by decide : 0 + 0 ≤ _), (by decide : 0 + 0 ≤ _)⟩)
      dsimp only [Pt.U, Pt.locs, Pt.cells, Pt.slots] at X14 l14 y14 z14 st14 hQ14
      subst l14 y14 z14
      obtain ⟨rfl, N14q, eq14⟩ := hQ14
      have N15 := Fr.app N12 N14q
      refine Go.step (fun _ k => st14.trans k) ?_
      show Go p e below s _ _ _ T14 (mkF m 102 #[.val (.long q1), .second, .val (.long q2), .second, .val (.int p3), .val (.int md), .val (.long rr), .second, .val (.int (1 : Int32)), .val (.int (0 : Int32)), .val (.int (0 : Int32)), .val (.int (1 : Int32)), .unset, .unset, .unset, .unset] [(.int (own_b (rr < q1)))])
      rw [show (own_b (rr < q1)) = (0 : Int32) from if_neg h3]
      refine Go.step (fun _ k => XS.istore X14.here hx rfl (hb hby at_102) rfl (l' := #[.val (.long q1), .second, .val (.long q2), .second, .val (.int p3), .val (.int md), .val (.long rr), .second, .val (.int (1 : Int32)), .val (.int (0 : Int32)), .val (.int (0 : Int32)), .val (.int (1 : Int32)), .val (.int (0 : Int32)), .unset, .unset, .unset]) rfl k) ?_
      show Go p e below s _ _ _ T14 (mkF m 104 #[.val (.long q1), .second, .val (.long q2), .second, .val (.int p3), .val (.int md), .val (.long rr), .second, .val (.int (1 : Int32)), .val (.int (0 : Int32)), .val (.int (0 : Int32)), .val (.int (1 : Int32)), .val (.int (0 : Int32)), .unset, .unset, .unset] [])
      obtain ⟨T16, X16, e16, st16⟩ := getS2 X14 hx hZ hown (host := "") (Or.inl (tw25 hw)) Via.refl eq14 S_GREATER_OR_EQUAL (g := (mkF m 104 #[.val (.long q1), .second, .val (.long q2), .second, .val (.int p3), .val (.int md), .val (.long rr), .second, .val (.int (1 : Int32)), .val (.int (0 : Int32)), .val (.int (0 : Int32)), .val (.int (1 : Int32)), .val (.int (0 : Int32)), .unset, .unset, .unset] [])) rfl (hb hby at_104)
      refine Go.step (fun _ k => st16 _ (XS.lloadN X16.here hx rfl (hb hby at_107) rfl (XS.lload X16.here hx rfl (hb hby at_108) rfl k))) ?_
      show Go p e below s _ _ _ T16 (mkF m 110 #[.val (.long q1), .second, .val (.long q2), .second, .val (.int p3), .val (.int md), .val (.long rr), .second, .val (.int (1 : Int32)), .val (.int (0 : Int32)), .val (.int (0 : Int32)), .val (.int (1 : Int32)), .val (.int (0 : Int32)), .unset, .unset, .unset] [(.long rr), (.long q1), (.ref b5)])
      obtain ⟨cq17, kq17, q17a, q17b, q17c⟩ := isOf hZ e16 E_b5
      obtain ⟨_, _, ⟨T17, L17, k17, n17⟩, -, X17, ⟨Lc17, hQ17, l17, y17, z17⟩, st17⟩ := X16.virtualBack hx (y := xm3) (z := xm3) hown (mvT hZ (tw3 hw)) (mvT hZ (tw4 hw)) (notFace_of_selects (args := #[]) (mvT hZ (tw6 hw))) (mvT hZ (tw6 hw)) (mvT hZ (tw5 hw)) (by decide) (backOf (W := 0) (rm_test5 l Z a0 hw [] b5 q1 rr h0 n0 Z0 E_b5 F_ordinal_b5) hZ (tw7 hw) (tw1 hw) (by decide) (by decide)) q17a q17c (g := (mkF m 110 #[.val (.long q1), .second, .val (.long q2), .second, .val (.int p3), .val (.int md), .val (.long rr), .second, .val (.int (1 : Int32)), .val (.int (0 : Int32)), .val (.int (0 : Int32)), .val (.int (1 : Int32)), .val (.int (0 : Int32)), .unset, .unset, .unset] [(.long rr), (.long q1), (.ref b5)])) rfl (by rw [hml]; rfl) (Steps.refl _) (argsL := [(.long q1), (.long rr)]) (rest := []) (lenOf pd_1 rfl) rfl (by show 2 * 0 + _ ≤ _; exact Nat.le_of_eq rfl) (hb hby at_110) (fun _ _ => ⟨rfl, e16, (by decide : 0 + 0 ≤ _), (by decide : 0 + 0 ≤ _)⟩)
      dsimp only [Pt.U, Pt.locs, Pt.cells, Pt.slots] at X17 l17 y17 z17 st17 hQ17
      subst l17 y17 z17
      obtain ⟨rfl, N17q, eq17⟩ := hQ17
      have N18 := Fr.app N15 N17q
      refine Go.step (fun _ k => st17.trans k) ?_
      show Go p e below s _ _ _ T17 (mkF m 113 #[.val (.long q1), .second, .val (.long q2), .second, .val (.int p3), .val (.int md), .val (.long rr), .second, .val (.int (1 : Int32)), .val (.int (0 : Int32)), .val (.int (0 : Int32)), .val (.int (1 : Int32)), .val (.int (0 : Int32)), .unset, .unset, .unset] [(.int (own_b (¬ q1 < rr)))])
      rw [show (own_b (¬ q1 < rr)) = (1 : Int32) from if_pos h2]
      refine Go.step (fun _ k => XS.istore X17.here hx rfl (hb hby at_113) rfl (l' := #[.val (.long q1), .second, .val (.long q2), .second, .val (.int p3), .val (.int md), .val (.long rr), .second, .val (.int (1 : Int32)), .val (.int (0 : Int32)), .val (.int (0 : Int32)), .val (.int (1 : Int32)), .val (.int (0 : Int32)), .val (.int (1 : Int32)), .unset, .unset]) rfl (XS.lloadN X17.here hx rfl (hb hby at_115) rfl (XS.lload X17.here hx rfl (hb hby at_116) rfl (XS.lxor X17.here hx rfl (hb hby at_118) rfl (XS.lconst X17.here hx rfl (hb hby at_119) (XS.lcmp X17.here hx rfl (hb hby at_120) rfl (XS.ifNo X17.here hx rfl (hb hby at_121) rfl ((if0 _ _).trans (teq (((lw_eq _ _).mpr ((own_xor q1 rr).mpr h1)))).2) (XS.iconst X17.here hx rfl (hb hby at_124) (XS.goto X17.here hx rfl (pc0 := 125) (pc' := 129) rfl (hb hby at_125) (by decide) (by decide) (XS.istore X17.here hx rfl (hb hby at_129) rfl (l' := #[.val (.long q1), .second, .val (.long q2), .second, .val (.int p3), .val (.int md), .val (.long rr), .second, .val (.int (1 : Int32)), .val (.int (0 : Int32)), .val (.int (0 : Int32)), .val (.int (1 : Int32)), .val (.int (0 : Int32)), .val (.int (1 : Int32)), .val (.int (1 : Int32)), .unset]) rfl k)))))))))) ?_
      show Go p e below s _ _ _ T17 (mkF m 131 #[.val (.long q1), .second, .val (.long q2), .second, .val (.int p3), .val (.int md), .val (.long rr), .second, .val (.int (1 : Int32)), .val (.int (0 : Int32)), .val (.int (0 : Int32)), .val (.int (1 : Int32)), .val (.int (0 : Int32)), .val (.int (1 : Int32)), .val (.int (1 : Int32)), .unset] [])
      refine Go.step (fun _ k => XS.iload X17.here hx rfl (hb hby at_131) rfl (XS.iload X17.here hx rfl (hb hby at_133) rfl (XS.icmpNo X17.here hx rfl (hb hby at_135) rfl (teq (by decide)).2 (XS.iconst X17.here hx rfl (hb hby at_138) (XS.goto X17.here hx rfl (pc0 := 139) (pc' := 143) rfl (hb hby at_139) (by decide) (by decide) (XS.istore X17.here hx rfl (hb hby at_143) rfl (l' := #[.val (.long q1), .second, .val (.long q2), .second, .val (.int p3), .val (.int md), .val (.long rr), .second, .val (.int (1 : Int32)), .val (.int (0 : Int32)), .val (.int (0 : Int32)), .val (.int (1 : Int32)), .val (.int (0 : Int32)), .val (.int (1 : Int32)), .val (.int (1 : Int32)), .val (.int (1 : Int32))]) rfl (XS.iload X17.here hx rfl (hb hby at_145) rfl (XS.ifNo X17.here hx rfl (hb hby at_147) rfl ((if0 _ _).trans (feq (by decide)).1) (XS.iload X17.here hx rfl (hb hby at_150) rfl (XS.iload X17.here hx rfl (hb hby at_152) rfl k)))))))))) ?_
      show Go p e below s _ _ _ T17 (mkF m 154 #[.val (.long q1), .second, .val (.long q2), .second, .val (.int p3), .val (.int md), .val (.long rr), .second, .val (.int (1 : Int32)), .val (.int (0 : Int32)), .val (.int (0 : Int32)), .val (.int (1 : Int32)), .val (.int (0 : Int32)), .val (.int (1 : Int32)), .val (.int (1 : Int32)), .val (.int (1 : Int32))] [(.int (1 : Int32)), (.int (0 : Int32))])
      refine Go.step (fun _ k => XS.ifYes X17.here hx rfl (pc0 := 154) (pc' := 161) rfl (hb hby at_154) rfl ((if0 _ _).trans (feq (by decide)).2) (by decide) (by decide) (XS.iconst X17.here hx rfl (hb hby at_161) (XS.icmpNo X17.here hx rfl (hb hby at_162) rfl (teq (by decide)).2 (XS.iconst X17.here hx rfl (hb hby at_165) (XS.goto X17.here hx rfl (pc0 := 166) (pc' := 170) rfl (hb hby at_166) (by decide) (by decide) (XS.istore X17.here hx rfl (hb hby at_170) rfl (l' := #[.val (.long q1), .second, .val (.long q2), .second, .val (.int p3), .val (.int md), .val (.long rr), .second, .val (.int (1 : Int32)), .val (.int (0 : Int32)), .val (.int (0 : Int32)), .val (.int (1 : Int32)), .val (.int (0 : Int32)), .val (.int (1 : Int32)), .val (.int (1 : Int32)), .val (.int (1 : Int32))]) rfl (XS.iload X17.here hx rfl (hb hby at_172) rfl (XS.ifNo X17.here hx rfl (hb hby at_174) rfl ((if0 _ _).trans (feq (by decide)).1) (XS.iload X17.here hx rfl (hb hby at_177) rfl (XS.lloadN X17.here hx rfl (hb hby at_179) rfl k)))))))))) ?_
      show Go p e below s _ _ _ T17 (mkF m 180 #[.val (.long q1), .second, .val (.long q2), .second, .val (.int p3), .val (.int md), .val (.long rr), .second, .val (.int (1 : Int32)), .val (.int (0 : Int32)), .val (.int (0 : Int32)), .val (.int (1 : Int32)), .val (.int (0 : Int32)), .val (.int (1 : Int32)), .val (.int (1 : Int32)), .val (.int (1 : Int32))] [(.long q1), (.int (0 : Int32))])
      refine Go.step (fun _ k => XS.lload X17.here hx rfl (hb hby at_180) rfl k) ?_
      show Go p e below s _ _ _ T17 (mkF m 182 #[.val (.long q1), .second, .val (.long q2), .second, .val (.int p3), .val (.int md), .val (.long rr), .second, .val (.int (1 : Int32)), .val (.int (0 : Int32)), .val (.int (0 : Int32)), .val (.int (1 : Int32)), .val (.int (0 : Int32)), .val (.int (1 : Int32)), .val (.int (1 : Int32)), .val (.int (1 : Int32))] [(.long rr), (.long q1), (.int (0 : Int32))])
      obtain ⟨_, _, ⟨T19, L19, k19, n19⟩, -, X19, ⟨Lc19, hQ19, l19, y19, z19⟩, st19⟩ := Jvm.LawKit.callS X17 hx (y := xm0) hown (mvT hZ (tw27 hw)) (mvT hZ (tw28 hw)) (mvT hZ (tw29 hw)) (mvT hZ (tw30 hw)) (by decide) (backOf (W := 1) (rm_less l Z a0 hw [] q1 rr h0 n0 Z0) hZ (tw30 hw) (tw29 hw) (by decide) (by decide)) (g := (mkF m 182 #[.val (.long q1), .second, .val (.long q2), .second, .val (.int p3), .val (.int md), .val (.long rr), .second, .val (.int (1 : Int32)), .val (.int (0 : Int32)), .val (.int (0 : Int32)), .val (.int (1 : Int32)), .val (.int (0 : Int32)), .val (.int (1 : Int32)), .val (.int (1 : Int32)), .val (.int (1 : Int32))] [(.long rr), (.long q1), (.int (0 : Int32))])) rfl (by rw [hml]; rfl) (argsL := [(.long q1), (.long rr)]) (rest := [(.int (0 : Int32))]) (lenOf pd_1 rfl) rfl (by show 2 * 0 + _ ≤ _; exact Nat.le_of_eq rfl) (hb hby at_182) (fun _ _ => ⟨rfl, eq17, (by decide : 0 + 0 ≤ _), (by decide : 0 + 0 ≤ _)⟩)
      dsimp only [Pt.U, Pt.locs, Pt.cells, Pt.slots] at X19 l19 y19 z19 st19 hQ19
      subst l19 y19 z19
      obtain ⟨rfl, N19q, eq19⟩ := hQ19
      have N20 := Fr.app N18 N19q
      refine Go.step (fun _ k => st19 _ k) ?_
      show Go p e below s _ _ _ T19 (mkF m 185 #[.val (.long q1), .second, .val (.long q2), .second, .val (.int p3), .val (.int md), .val (.long rr), .second, .val (.int (1 : Int32)), .val (.int (0 : Int32)), .val (.int (0 : Int32)), .val (.int (1 : Int32)), .val (.int (0 : Int32)), .val (.int (1 : Int32)), .val (.int (1 : Int32)), .val (.int (1 : Int32))] [(.int (own_b (q1 < rr))), (.int (0 : Int32))])
      rw [show (own_b (q1 < rr)) = (0 : Int32) from if_neg h2]
      refine Go.step (fun _ k => XS.icmpNo X19.here hx rfl (hb hby at_185) rfl (teq (by decide)).2 (XS.iconst X19.here hx rfl (hb hby at_188) (XS.goto X19.here hx rfl (pc0 := 189) (pc' := 193) rfl (hb hby at_189) (by decide) (by decide) (XS.istore X19.here hx rfl (hb hby at_193) rfl (l' := #[.val (.long q1), .second, .val (.long q2), .second, .val (.int p3), .val (.int md), .val (.long rr), .second, .val (.int (1 : Int32)), .val (.int (0 : Int32)), .val (.int (0 : Int32)), .val (.int (1 : Int32)), .val (.int (0 : Int32)), .val (.int (1 : Int32)), .val (.int (1 : Int32)), .val (.int (1 : Int32))]) rfl (XS.iload X19.here hx rfl (hb hby at_195) rfl (XS.ifNo X19.here hx rfl (hb hby at_197) rfl ((if0 _ _).trans (feq (by decide)).1) (XS.iload X19.here hx rfl (hb hby at_200) rfl k))))))) ?_
      show Go p e below s _ _ _ T19 (mkF m 202 #[.val (.long q1), .second, .val (.long q2), .second, .val (.int p3), .val (.int md), .val (.long rr), .second, .val (.int (1 : Int32)), .val (.int (0 : Int32)), .val (.int (0 : Int32)), .val (.int (1 : Int32)), .val (.int (0 : Int32)), .val (.int (1 : Int32)), .val (.int (1 : Int32)), .val (.int (1 : Int32))] [(.int (0 : Int32))])
      obtain ⟨_, _, ⟨T21, L21, k21, n21⟩, -, X21, ⟨Lc21, hQ21, l21, y21, z21⟩, st21⟩ := Jvm.LawKit.callS X19 hx (y := xm4) hown (mvT hZ (tw31 hw)) (mvT hZ (tw32 hw)) (mvT hZ (tw29 hw)) (mvT hZ (tw33 hw)) (by decide) (backOf (W := 0) (rm_one l Z a0 hw [] (0 : Int32) h0 n0 Z0) hZ (tw33 hw) (tw29 hw) (by decide) (by decide)) (g := (mkF m 202 #[.val (.long q1), .second, .val (.long q2), .second, .val (.int p3), .val (.int md), .val (.long rr), .second, .val (.int (1 : Int32)), .val (.int (0 : Int32)), .val (.int (0 : Int32)), .val (.int (1 : Int32)), .val (.int (0 : Int32)), .val (.int (1 : Int32)), .val (.int (1 : Int32)), .val (.int (1 : Int32))] [(.int (0 : Int32))])) rfl (by rw [hml]; rfl) (argsL := [(.int (0 : Int32))]) (rest := []) (lenOf pd_2 rfl) rfl (by show 2 * 0 + _ ≤ _; exact Nat.le_of_eq rfl) (hb hby at_202) (fun _ _ => ⟨rfl, eq19, (by decide : 0 + 0 ≤ _), (by decide : 0 + 0 ≤ _)⟩)
      dsimp only [Pt.U, Pt.locs, Pt.cells, Pt.slots] at X21 l21 y21 z21 st21 hQ21
      subst l21 y21 z21
      obtain ⟨rfl, N21q, eq21⟩ := hQ21
      have N22 := Fr.app N20 N21q
      refine Go.step (fun _ k => st21 _ (XS.iload X21.here hx rfl (hb hby at_205) rfl k)) ?_
      show Go p e below s _ _ _ T21 (mkF m 207 #[.val (.long q1), .second, .val (.long q2), .second, .val (.int p3), .val (.int md), .val (.long rr), .second, .val (.int (1 : Int32)), .val (.int (0 : Int32)), .val (.int (0 : Int32)), .val (.int (1 : Int32)), .val (.int (0 : Int32)), .val (.int (1 : Int32)), .val (.int (1 : Int32)), .val (.int (1 : Int32))] [(.int (1 : Int32)), (.int (0 : Int32))])
      obtain ⟨_, _, ⟨T23, L23, k23, n23⟩, -, X23, ⟨Lc23, hQ23, l23, y23, z23⟩, st23⟩ := Jvm.LawKit.callS X21 hx (y := xm4) hown (mvT hZ (tw31 hw)) (mvT hZ (tw32 hw)) (mvT hZ (tw29 hw)) (mvT hZ (tw33 hw)) (by decide) (backOf (W := 1) (rm_one l Z a0 hw [] (1 : Int32) h0 n0 Z0) hZ (tw33 hw) (tw29 hw) (by decide) (by decide)) (g := (mkF m 207 #[.val (.long q1), .second, .val (.long q2), .second, .val (.int p3), .val (.int md), .val (.long rr), .second, .val (.int (1 : Int32)), .val (.int (0 : Int32)), .val (.int (0 : Int32)), .val (.int (1 : Int32)), .val (.int (0 : Int32)), .val (.int (1 : Int32)), .val (.int (1 : Int32)), .val (.int (1 : Int32))] [(.int (1 : Int32)), (.int (0 : Int32))])) rfl (by rw [hml]; rfl) (argsL := [(.int (1 : Int32))]) (rest := [(.int (0 : Int32))]) (lenOf pd_2 rfl) rfl (by show 2 * 0 + _ ≤ _; exact Nat.le_of_eq rfl) (hb hby at_207) (fun _ _ => ⟨rfl, eq21, (by decide : 0 + 0 ≤ _), (by decide : 0 + 0 ≤ _)⟩)
      dsimp only [Pt.U, Pt.locs, Pt.cells, Pt.slots] at X23 l23 y23 z23 st23 hQ23
      subst l23 y23 z23
      obtain ⟨rfl, N23q, eq23⟩ := hQ23
      have N24 := Fr.app N22 N23q
      refine Go.step (fun _ k => st23 _ (XS.iadd X23.here hx rfl (hb hby at_210) rfl (XS.iload X23.here hx rfl (hb hby at_211) rfl k))) ?_
      show Go p e below s _ _ _ T23 (mkF m 213 #[.val (.long q1), .second, .val (.long q2), .second, .val (.int p3), .val (.int md), .val (.long rr), .second, .val (.int (1 : Int32)), .val (.int (0 : Int32)), .val (.int (0 : Int32)), .val (.int (1 : Int32)), .val (.int (0 : Int32)), .val (.int (1 : Int32)), .val (.int (1 : Int32)), .val (.int (1 : Int32))] [(.int (0 : Int32)), (.int (1 : Int32))])
      obtain ⟨_, _, ⟨T25, L25, k25, n25⟩, -, X25, ⟨Lc25, hQ25, l25, y25, z25⟩, st25⟩ := Jvm.LawKit.callS X23 hx (y := xm4) hown (mvT hZ (tw31 hw)) (mvT hZ (tw32 hw)) (mvT hZ (tw29 hw)) (mvT hZ (tw33 hw)) (by decide) (backOf (W := 1) (rm_one l Z a0 hw [] (0 : Int32) h0 n0 Z0) hZ (tw33 hw) (tw29 hw) (by decide) (by decide)) (g := (mkF m 213 #[.val (.long q1), .second, .val (.long q2), .second, .val (.int p3), .val (.int md), .val (.long rr), .second, .val (.int (1 : Int32)), .val (.int (0 : Int32)), .val (.int (0 : Int32)), .val (.int (1 : Int32)), .val (.int (0 : Int32)), .val (.int (1 : Int32)), .val (.int (1 : Int32)), .val (.int (1 : Int32))] [(.int (0 : Int32)), (.int (1 : Int32))])) rfl (by rw [hml]; rfl) (argsL := [(.int (0 : Int32))]) (rest := [(.int (1 : Int32))]) (lenOf pd_2 rfl) rfl (by show 2 * 0 + _ ≤ _; exact Nat.le_of_eq rfl) (hb hby at_213) (fun _ _ => ⟨rfl, eq23, (by decide : 0 + 0 ≤ _), (by decide : 0 + 0 ≤ _)⟩)
      dsimp only [Pt.U, Pt.locs, Pt.cells, Pt.slots] at X25 l25 y25 z25 st25 hQ25
      subst l25 y25 z25
      obtain ⟨rfl, N25q, eq25⟩ := hQ25
      have N26 := Fr.app N24 N25q
      refine Go.step (fun _ k => st25 _ (XS.iadd X25.here hx rfl (hb hby at_216) rfl (XS.iconst X25.here hx rfl (hb hby at_217) (XS.icmpNo X25.here hx rfl (hb hby at_218) rfl (teq (by decide)).2 (XS.iconst X25.here hx rfl (hb hby at_221) (XS.goto X25.here hx rfl (pc0 := 222) (pc' := 226) rfl (hb hby at_222) (by decide) (by decide) (XS.istore X25.here hx rfl (hb hby at_226) rfl (l' := #[.val (.long q1), .second, .val (.long q2), .second, .val (.int p3), .val (.int md), .val (.long rr), .second, .val (.int (1 : Int32)), .val (.int (0 : Int32)), .val (.int (0 : Int32)), .val (.int (1 : Int32)), .val (.int (0 : Int32)), .val (.int (1 : Int32)), .val (.int (1 : Int32)), .val (.int (1 : Int32))]) rfl (XS.iload X25.here hx rfl (hb hby at_228) rfl (XS.ifNo X25.here hx rfl (hb hby at_230) rfl ((if0 _ _).trans (feq (by decide)).1) (XS.iload X25.here hx rfl (hb hby at_233) rfl k)))))))))) ?_
      show Go p e below s _ _ _ T25 (mkF m 235 #[.val (.long q1), .second, .val (.long q2), .second, .val (.int p3), .val (.int md), .val (.long rr), .second, .val (.int (1 : Int32)), .val (.int (0 : Int32)), .val (.int (0 : Int32)), .val (.int (1 : Int32)), .val (.int (0 : Int32)), .val (.int (1 : Int32)), .val (.int (1 : Int32)), .val (.int (1 : Int32))] [(.int (1 : Int32))])
      refine Go.step (fun _ k => XS.iload X25.here hx rfl (hb hby at_235) rfl (XS.ifNo X25.here hx rfl (hb hby at_237) rfl ((if0 _ _).trans (teq (by decide)).2) (XS.iload X25.here hx rfl (hb hby at_240) rfl (XS.ifNo X25.here hx rfl (hb hby at_242) rfl ((if0 _ _).trans (feq (by decide)).1) (XS.iconst X25.here hx rfl (hb hby at_245) (XS.goto X25.here hx rfl (pc0 := 246) (pc' := 250) rfl (hb hby at_246) (by decide) (by decide) (XS.icmpNo X25.here hx rfl (hb hby at_250) rfl (teq (by decide)).2 (XS.iconst X25.here hx rfl (hb hby at_253) (XS.goto X25.here hx rfl (pc0 := 254) (pc' := 258) rfl (hb hby at_254) (by decide) (by decide) (XS.istore X25.here hx rfl (hb hby at_258) rfl (l' := #[.val (.long q1), .second, .val (.long q2), .second, .val (.int p3), .val (.int md), .val (.long rr), .second, .val (.int (1 : Int32)), .val (.int (0 : Int32)), .val (.int (0 : Int32)), .val (.int (1 : Int32)), .val (.int (0 : Int32)), .val (.int (1 : Int32)), .val (.int (1 : Int32)), .val (.int (1 : Int32))]) rfl k)))))))))) ?_
      show Go p e below s _ _ _ T25 (mkF m 260 #[.val (.long q1), .second, .val (.long q2), .second, .val (.int p3), .val (.int md), .val (.long rr), .second, .val (.int (1 : Int32)), .val (.int (0 : Int32)), .val (.int (0 : Int32)), .val (.int (1 : Int32)), .val (.int (0 : Int32)), .val (.int (1 : Int32)), .val (.int (1 : Int32)), .val (.int (1 : Int32))] [])
      refine Go.step (fun _ k => XS.iload X25.here hx rfl (hb hby at_260) rfl (XS.ifNo X25.here hx rfl (hb hby at_262) rfl ((if0 _ _).trans (feq (by decide)).1) (XS.iload X25.here hx rfl (hb hby at_265) rfl (XS.iload X25.here hx rfl (hb hby at_267) rfl (XS.ifNo X25.here hx rfl (hb hby at_269) rfl ((if0 _ _).trans (teq (by decide)).2) (XS.iload X25.here hx rfl (hb hby at_272) rfl (XS.ifNo X25.here hx rfl (hb hby at_274) rfl ((if0 _ _).trans (feq (by decide)).1) (XS.iconst X25.here hx rfl (hb hby at_277) (XS.goto X25.here hx rfl (pc0 := 278) (pc' := 282) rfl (hb hby at_278) (by decide) (by decide) (XS.icmpNo X25.here hx rfl (hb hby at_282) rfl (teq (by decide)).2 k)))))))))) ?_
      show Go p e below s _ _ _ T25 (mkF m 285 #[.val (.long q1), .second, .val (.long q2), .second, .val (.int p3), .val (.int md), .val (.long rr), .second, .val (.int (1 : Int32)), .val (.int (0 : Int32)), .val (.int (0 : Int32)), .val (.int (1 : Int32)), .val (.int (0 : Int32)), .val (.int (1 : Int32)), .val (.int (1 : Int32)), .val (.int (1 : Int32))] [])
      refine Go.step (fun _ k => XS.iconst X25.here hx rfl (hb hby at_285) (XS.goto X25.here hx rfl (pc0 := 286) (pc' := 290) rfl (hb hby at_286) (by decide) (by decide) (XS.istore X25.here hx rfl (hb hby at_290) rfl (l' := #[.val (.long q1), .second, .val (.long q2), .second, .val (.int p3), .val (.int md), .val (.long rr), .second, .val (.int (1 : Int32)), .val (.int (0 : Int32)), .val (.int (0 : Int32)), .val (.int (1 : Int32)), .val (.int (0 : Int32)), .val (.int (1 : Int32)), .val (.int (1 : Int32)), .val (.int (1 : Int32))]) rfl (XS.iload X25.here hx rfl (hb hby at_292) rfl k)))) ?_
      show Go p e below s _ _ _ T25 (mkF m 294 #[.val (.long q1), .second, .val (.long q2), .second, .val (.int p3), .val (.int md), .val (.long rr), .second, .val (.int (1 : Int32)), .val (.int (0 : Int32)), .val (.int (0 : Int32)), .val (.int (1 : Int32)), .val (.int (0 : Int32)), .val (.int (1 : Int32)), .val (.int (1 : Int32)), .val (.int (1 : Int32))] [(.int (1 : Int32))])
      exact Go.retN X25 hx hlk (t := .boolean) Bd.returns (by simp) (hb hby at_294) eq25 ⟨rfl, N26⟩ (by decide) (by decide)
    · obtain ⟨T27, X27, e27, st27⟩ := getS2 X0 hx hZ hown (host := "") (Or.inl (tw0 hw)) Via.refl e0 S_EQUAL (g := (mkF m 49 #[.val (.long q1), .second, .val (.long q2), .second, .val (.int p3), .val (.int md), .val (.long rr), .second, .unset, .unset, .unset, .unset, .unset, .unset, .unset, .unset] [])) rfl (hb hby at_49)
      refine Go.step (fun _ k => st27 _ (XS.lloadN X27.here hx rfl (hb hby at_52) rfl (XS.lload X27.here hx rfl (hb hby at_53) rfl k))) ?_
      show Go p e below s _ _ _ T27 (mkF m 55 #[.val (.long q1), .second, .val (.long q2), .second, .val (.int p3), .val (.int md), .val (.long rr), .second, .unset, .unset, .unset, .unset, .unset, .unset, .unset, .unset] [(.long rr), (.long q1), (.ref b0)])
      obtain ⟨cq28, kq28, q28a, q28b, q28c⟩ := isOf hZ e27 E_b0
      obtain ⟨_, _, ⟨T28, L28, k28, n28⟩, -, X28, ⟨Lc28, hQ28, l28, y28, z28⟩, st28⟩ := X27.virtualBack hx (y := xm3) (z := xm3) hown (mvT hZ (tw3 hw)) (mvT hZ (tw4 hw)) (notFace_of_selects (args := #[]) (mvT hZ (tw6 hw))) (mvT hZ (tw6 hw)) (mvT hZ (tw5 hw)) (by decide) (backOf (W := 0) (rm_test0 l Z a0 hw [] b0 q1 rr h0 n0 Z0 E_b0 F_ordinal_b0) hZ (tw7 hw) (tw1 hw) (by decide) (by decide)) q28a q28c (g := (mkF m 55 #[.val (.long q1), .second, .val (.long q2), .second, .val (.int p3), .val (.int md), .val (.long rr), .second, .unset, .unset, .unset, .unset, .unset, .unset, .unset, .unset] [(.long rr), (.long q1), (.ref b0)])) rfl (by rw [hml]; rfl) (Steps.refl _) (argsL := [(.long q1), (.long rr)]) (rest := []) (lenOf pd_1 rfl) rfl (by show 2 * 0 + _ ≤ _; exact Nat.le_of_eq rfl) (hb hby at_55) (fun _ _ => ⟨rfl, e27, (by decide : 0 + 0 ≤ _), (by decide : 0 + 0 ≤ _)⟩)
      dsimp only [Pt.U, Pt.locs, Pt.cells, Pt.slots] at X28 l28 y28 z28 st28 hQ28
      subst l28 y28 z28
      obtain ⟨rfl, N28q, eq28⟩ := hQ28
      have N29 := Fr.app N0 N28q
      refine Go.step (fun _ k => st28.trans k) ?_
      show Go p e below s _ _ _ T28 (mkF m 58 #[.val (.long q1), .second, .val (.long q2), .second, .val (.int p3), .val (.int md), .val (.long rr), .second, .unset, .unset, .unset, .unset, .unset, .unset, .unset, .unset] [(.int (own_b (q1 = rr)))])
      rw [show (own_b (q1 = rr)) = (0 : Int32) from if_neg h1]
      refine Go.step (fun _ k => XS.istore X28.here hx rfl (hb hby at_58) rfl (l' := #[.val (.long q1), .second, .val (.long q2), .second, .val (.int p3), .val (.int md), .val (.long rr), .second, .val (.int (0 : Int32)), .unset, .unset, .unset, .unset, .unset, .unset, .unset]) rfl k) ?_
      show Go p e below s _ _ _ T28 (mkF m 60 #[.val (.long q1), .second, .val (.long q2), .second, .val (.int p3), .val (.int md), .val (.long rr), .second, .val (.int (0 : Int32)), .unset, .unset, .unset, .unset, .unset, .unset, .unset] [])
      obtain ⟨T30, X30, e30, st30⟩ := getS2 X28 hx hZ hown (host := "") (Or.inl (tw17 hw)) Via.refl eq28 S_NOT_EQUAL (g := (mkF m 60 #[.val (.long q1), .second, .val (.long q2), .second, .val (.int p3), .val (.int md), .val (.long rr), .second, .val (.int (0 : Int32)), .unset, .unset, .unset, .unset, .unset, .unset, .unset] [])) rfl (hb hby at_60)
      refine Go.step (fun _ k => st30 _ (XS.lloadN X30.here hx rfl (hb hby at_63) rfl (XS.lload X30.here hx rfl (hb hby at_64) rfl k))) ?_
      show Go p e below s _ _ _ T30 (mkF m 66 #[.val (.long q1), .second, .val (.long q2), .second, .val (.int p3), .val (.int md), .val (.long rr), .second, .val (.int (0 : Int32)), .unset, .unset, .unset, .unset, .unset, .unset, .unset] [(.long rr), (.long q1), (.ref b1)])
      obtain ⟨cq31, kq31, q31a, q31b, q31c⟩ := isOf hZ e30 E_b1
      obtain ⟨_, _, ⟨T31, L31, k31, n31⟩, -, X31, ⟨Lc31, hQ31, l31, y31, z31⟩, st31⟩ := X30.virtualBack hx (y := xm3) (z := xm3) hown (mvT hZ (tw3 hw)) (mvT hZ (tw4 hw)) (notFace_of_selects (args := #[]) (mvT hZ (tw6 hw))) (mvT hZ (tw6 hw)) (mvT hZ (tw5 hw)) (by decide) (backOf (W := 0) (rm_test1 l Z a0 hw [] b1 q1 rr h0 n0 Z0 E_b1 F_ordinal_b1) hZ (tw7 hw) (tw1 hw) (by decide) (by decide)) q31a q31c (g := (mkF m 66 #[.val (.long q1), .second, .val (.long q2), .second, .val (.int p3), .val (.int md), .val (.long rr), .second, .val (.int (0 : Int32)), .unset, .unset, .unset, .unset, .unset, .unset, .unset] [(.long rr), (.long q1), (.ref b1)])) rfl (by rw [hml]; rfl) (Steps.refl _) (argsL := [(.long q1), (.long rr)]) (rest := []) (lenOf pd_1 rfl) rfl (by show 2 * 0 + _ ≤ _; exact Nat.le_of_eq rfl) (hb hby at_66) (fun _ _ => ⟨rfl, e30, (by decide : 0 + 0 ≤ _), (by decide : 0 + 0 ≤ _)⟩)
      dsimp only [Pt.U, Pt.locs, Pt.cells, Pt.slots] at X31 l31 y31 z31 st31 hQ31
      subst l31 y31 z31
      obtain ⟨rfl, N31q, eq31⟩ := hQ31
      have N32 := Fr.app N29 N31q
      refine Go.step (fun _ k => st31.trans k) ?_
      show Go p e below s _ _ _ T31 (mkF m 69 #[.val (.long q1), .second, .val (.long q2), .second, .val (.int p3), .val (.int md), .val (.long rr), .second, .val (.int (0 : Int32)), .unset, .unset, .unset, .unset, .unset, .unset, .unset] [(.int (own_b (¬ q1 = rr)))])
      rw [show (own_b (¬ q1 = rr)) = (1 : Int32) from if_pos h1]
      refine Go.step (fun _ k => XS.istore X31.here hx rfl (hb hby at_69) rfl (l' := #[.val (.long q1), .second, .val (.long q2), .second, .val (.int p3), .val (.int md), .val (.long rr), .second, .val (.int (0 : Int32)), .val (.int (1 : Int32)), .unset, .unset, .unset, .unset, .unset, .unset]) rfl k) ?_
      show Go p e below s _ _ _ T31 (mkF m 71 #[.val (.long q1), .second, .val (.long q2), .second, .val (.int p3), .val (.int md), .val (.long rr), .second, .val (.int (0 : Int32)), .val (.int (1 : Int32)), .unset, .unset, .unset, .unset, .unset, .unset] [])
      obtain ⟨T33, X33, e33, st33⟩ := getS2 X31 hx hZ hown (host := "") (Or.inl (tw19 hw)) Via.refl eq31 S_LESS (g := (mkF m 71 #[.val (.long q1), .second, .val (.long q2), .second, .val (.int p3), .val (.int md), .val (.long rr), .second, .val (.int (0 : Int32)), .val (.int (1 : Int32)), .unset, .unset, .unset, .unset, .unset, .unset] [])) rfl (hb hby at_71)
      refine Go.step (fun _ k => st33 _ (XS.lloadN X33.here hx rfl (hb hby at_74) rfl (XS.lload X33.here hx rfl (hb hby at_75) rfl k))) ?_
      show Go p e below s _ _ _ T33 (mkF m 77 #[.val (.long q1), .second, .val (.long q2), .second, .val (.int p3), .val (.int md), .val (.long rr), .second, .val (.int (0 : Int32)), .val (.int (1 : Int32)), .unset, .unset, .unset, .unset, .unset, .unset] [(.long rr), (.long q1), (.ref b2)])
      obtain ⟨cq34, kq34, q34a, q34b, q34c⟩ := isOf hZ e33 E_b2
      obtain ⟨_, _, ⟨T34, L34, k34, n34⟩, -, X34, ⟨Lc34, hQ34, l34, y34, z34⟩, st34⟩ := X33.virtualBack hx (y := xm3) (z := xm3) hown (mvT hZ (tw3 hw)) (mvT hZ (tw4 hw)) (notFace_of_selects (args := #[]) (mvT hZ (tw6 hw))) (mvT hZ (tw6 hw)) (mvT hZ (tw5 hw)) (by decide) (backOf (W := 0) (rm_test2 l Z a0 hw [] b2 q1 rr h0 n0 Z0 E_b2 F_ordinal_b2) hZ (tw7 hw) (tw1 hw) (by decide) (by decide)) q34a q34c (g := (mkF m 77 #[.val (.long q1), .second, .val (.long q2), .second, .val (.int p3), .val (.int md), .val (.long rr), .second, .val (.int (0 : Int32)), .val (.int (1 : Int32)), .unset, .unset, .unset, .unset, .unset, .unset] [(.long rr), (.long q1), (.ref b2)])) rfl (by rw [hml]; rfl) (Steps.refl _) (argsL := [(.long q1), (.long rr)]) (rest := []) (lenOf pd_1 rfl) rfl (by show 2 * 0 + _ ≤ _; exact Nat.le_of_eq rfl) (hb hby at_77) (fun _ _ => ⟨rfl, e33, (by decide : 0 + 0 ≤ _), (by decide : 0 + 0 ≤ _)⟩)
      dsimp only [Pt.U, Pt.locs, Pt.cells, Pt.slots] at X34 l34 y34 z34 st34 hQ34
      subst l34 y34 z34
      obtain ⟨rfl, N34q, eq34⟩ := hQ34
      have N35 := Fr.app N32 N34q
      refine Go.step (fun _ k => st34.trans k) ?_
      show Go p e below s _ _ _ T34 (mkF m 80 #[.val (.long q1), .second, .val (.long q2), .second, .val (.int p3), .val (.int md), .val (.long rr), .second, .val (.int (0 : Int32)), .val (.int (1 : Int32)), .unset, .unset, .unset, .unset, .unset, .unset] [(.int (own_b (q1 < rr)))])
      rw [show (own_b (q1 < rr)) = (1 : Int32) from if_pos h2]
      refine Go.step (fun _ k => XS.istore X34.here hx rfl (hb hby at_80) rfl (l' := #[.val (.long q1), .second, .val (.long q2), .second, .val (.int p3), .val (.int md), .val (.long rr), .second, .val (.int (0 : Int32)), .val (.int (1 : Int32)), .val (.int (1 : Int32)), .unset, .unset, .unset, .unset, .unset]) rfl k) ?_
      show Go p e below s _ _ _ T34 (mkF m 82 #[.val (.long q1), .second, .val (.long q2), .second, .val (.int p3), .val (.int md), .val (.long rr), .second, .val (.int (0 : Int32)), .val (.int (1 : Int32)), .val (.int (1 : Int32)), .unset, .unset, .unset, .unset, .unset] [])
      obtain ⟨T36, X36, e36, st36⟩ := getS2 X34 hx hZ hown (host := "") (Or.inl (tw21 hw)) Via.refl eq34 S_LESS_OR_EQUAL (g := (mkF m 82 #[.val (.long q1), .second, .val (.long q2), .second, .val (.int p3), .val (.int md), .val (.long rr), .second, .val (.int (0 : Int32)), .val (.int (1 : Int32)), .val (.int (1 : Int32)), .unset, .unset, .unset, .unset, .unset] [])) rfl (hb hby at_82)
      refine Go.step (fun _ k => st36 _ (XS.lloadN X36.here hx rfl (hb hby at_85) rfl (XS.lload X36.here hx rfl (hb hby at_86) rfl k))) ?_
      show Go p e below s _ _ _ T36 (mkF m 88 #[.val (.long q1), .second, .val (.long q2), .second, .val (.int p3), .val (.int md), .val (.long rr), .second, .val (.int (0 : Int32)), .val (.int (1 : Int32)), .val (.int (1 : Int32)), .unset, .unset, .unset, .unset, .unset] [(.long rr), (.long q1), (.ref b3)])
      obtain ⟨cq37, kq37, q37a, q37b, q37c⟩ := isOf hZ e36 E_b3
      obtain ⟨_, _, ⟨T37, L37, k37, n37⟩, -, X37, ⟨Lc37, hQ37, l37, y37, z37⟩, st37⟩ := X36.virtualBack hx (y := xm3) (z := xm3) hown (mvT hZ (tw3 hw)) (mvT hZ (tw4 hw)) (notFace_of_selects (args := #[]) (mvT hZ (tw6 hw))) (mvT hZ (tw6 hw)) (mvT hZ (tw5 hw)) (by decide) (backOf (W := 0) (rm_test3 l Z a0 hw [] b3 q1 rr h0 n0 Z0 E_b3 F_ordinal_b3) hZ (tw7 hw) (tw1 hw) (by decide) (by decide)) q37a q37c (g := (mkF m 88 #[.val (.long q1), .second, .val (.long q2), .second, .val (.int p3), .val (.int md), .val (.long rr), .second, .val (.int (0 : Int32)), .val (.int (1 : Int32)), .val (.int (1 : Int32)), .unset, .unset, .unset, .unset, .unset] [(.long rr), (.long q1), (.ref b3)])) rfl (by rw [hml]; rfl) (Steps.refl _) (argsL := [(.long q1), (.long rr)]) (rest := []) (lenOf pd_1 rfl) rfl (by show 2 * 0 + _ ≤ _; exact Nat.le_of_eq rfl) (hb hby at_88) (fun _ _ => ⟨rfl, e36, (by decide : 0 + 0 ≤ _), (by decide : 0 + 0 ≤ _)⟩)
      dsimp only [Pt.U, Pt.locs, Pt.cells, Pt.slots] at X37 l37 y37 z37 st37 hQ37
      subst l37 y37 z37
      obtain ⟨rfl, N37q, eq37⟩ := hQ37
      have N38 := Fr.app N35 N37q
      refine Go.step (fun _ k => st37.trans k) ?_
      show Go p e below s _ _ _ T37 (mkF m 91 #[.val (.long q1), .second, .val (.long q2), .second, .val (.int p3), .val (.int md), .val (.long rr), .second, .val (.int (0 : Int32)), .val (.int (1 : Int32)), .val (.int (1 : Int32)), .unset, .unset, .unset, .unset, .unset] [(.int (own_b (¬ rr < q1)))])
      rw [show (own_b (¬ rr < q1)) = (1 : Int32) from if_pos h3]
      refine Go.step (fun _ k => XS.istore X37.here hx rfl (hb hby at_91) rfl (l' := #[.val (.long q1), .second, .val (.long q2), .second, .val (.int p3), .val (.int md), .val (.long rr), .second, .val (.int (0 : Int32)), .val (.int (1 : Int32)), .val (.int (1 : Int32)), .val (.int (1 : Int32)), .unset, .unset, .unset, .unset]) rfl k) ?_
      show Go p e below s _ _ _ T37 (mkF m 93 #[.val (.long q1), .second, .val (.long q2), .second, .val (.int p3), .val (.int md), .val (.long rr), .second, .val (.int (0 : Int32)), .val (.int (1 : Int32)), .val (.int (1 : Int32)), .val (.int (1 : Int32)), .unset, .unset, .unset, .unset] [])
      obtain ⟨T39, X39, e39, st39⟩ := getS2 X37 hx hZ hown (host := "") (Or.inl (tw23 hw)) Via.refl eq37 S_GREATER (g := (mkF m 93 #[.val (.long q1), .second, .val (.long q2), .second, .val (.int p3), .val (.int md), .val (.long rr), .second, .val (.int (0 : Int32)), .val (.int (1 : Int32)), .val (.int (1 : Int32)), .val (.int (1 : Int32)), .unset, .unset, .unset, .unset] [])) rfl (hb hby at_93)
      refine Go.step (fun _ k => st39 _ (XS.lloadN X39.here hx rfl (hb hby at_96) rfl (XS.lload X39.here hx rfl (hb hby at_97) rfl k))) ?_
      show Go p e below s _ _ _ T39 (mkF m 99 #[.val (.long q1), .second, .val (.long q2), .second, .val (.int p3), .val (.int md), .val (.long rr), .second, .val (.int (0 : Int32)), .val (.int (1 : Int32)), .val (.int (1 : Int32)), .val (.int (1 : Int32)), .unset, .unset, .unset, .unset] [(.long rr), (.long q1), (.ref b4)])
      obtain ⟨cq40, kq40, q40a, q40b, q40c⟩ := isOf hZ e39 E_b4
      obtain ⟨_, _, ⟨T40, L40, k40, n40⟩, -, X40, ⟨Lc40, hQ40, l40, y40, z40⟩, st40⟩ := X39.virtualBack hx (y := xm3) (z := xm3) hown (mvT hZ (tw3 hw)) (mvT hZ (tw4 hw)) (notFace_of_selects (args := #[]) (mvT hZ (tw6 hw))) (mvT hZ (tw6 hw)) (mvT hZ (tw5 hw)) (by decide) (backOf (W := 0) (rm_test4 l Z a0 hw [] b4 q1 rr h0 n0 Z0 E_b4 F_ordinal_b4) hZ (tw7 hw) (tw1 hw) (by decide) (by decide)) q40a q40c (g := (mkF m 99 #[.val (.long q1), .second, .val (.long q2), .second, .val (.int p3), .val (.int md), .val (.long rr), .second, .val (.int (0 : Int32)), .val (.int (1 : Int32)), .val (.int (1 : Int32)), .val (.int (1 : Int32)), .unset, .unset, .unset, .unset] [(.long rr), (.long q1), (.ref b4)])) rfl (by rw [hml]; rfl) (Steps.refl _) (argsL := [(.long q1), (.long rr)]) (rest := []) (lenOf pd_1 rfl) rfl (by show 2 * 0 + _ ≤ _; exact Nat.le_of_eq rfl) (hb hby at_99) (fun _ _ => ⟨rfl, e39, (by decide : 0 + 0 ≤ _), (by decide : 0 + 0 ≤ _)⟩)
      dsimp only [Pt.U, Pt.locs, Pt.cells, Pt.slots] at X40 l40 y40 z40 st40 hQ40
      subst l40 y40 z40
      obtain ⟨rfl, N40q, eq40⟩ := hQ40
      have N41 := Fr.app N38 N40q
      refine Go.step (fun _ k => st40.trans k) ?_
      show Go p e below s _ _ _ T40 (mkF m 102 #[.val (.long q1), .second, .val (.long q2), .second, .val (.int p3), .val (.int md), .val (.long rr), .second, .val (.int (0 : Int32)), .val (.int (1 : Int32)), .val (.int (1 : Int32)), .val (.int (1 : Int32)), .unset, .unset, .unset, .unset] [(.int (own_b (rr < q1)))])
      rw [show (own_b (rr < q1)) = (0 : Int32) from if_neg h3]
      refine Go.step (fun _ k => XS.istore X40.here hx rfl (hb hby at_102) rfl (l' := #[.val (.long q1), .second, .val (.long q2), .second, .val (.int p3), .val (.int md), .val (.long rr), .second, .val (.int (0 : Int32)), .val (.int (1 : Int32)), .val (.int (1 : Int32)), .val (.int (1 : Int32)), .val (.int (0 : Int32)), .unset, .unset, .unset]) rfl k) ?_
      show Go p e below s _ _ _ T40 (mkF m 104 #[.val (.long q1), .second, .val (.long q2), .second, .val (.int p3), .val (.int md), .val (.long rr), .second, .val (.int (0 : Int32)), .val (.int (1 : Int32)), .val (.int (1 : Int32)), .val (.int (1 : Int32)), .val (.int (0 : Int32)), .unset, .unset, .unset] [])
      obtain ⟨T42, X42, e42, st42⟩ := getS2 X40 hx hZ hown (host := "") (Or.inl (tw25 hw)) Via.refl eq40 S_GREATER_OR_EQUAL (g := (mkF m 104 #[.val (.long q1), .second, .val (.long q2), .second, .val (.int p3), .val (.int md), .val (.long rr), .second, .val (.int (0 : Int32)), .val (.int (1 : Int32)), .val (.int (1 : Int32)), .val (.int (1 : Int32)), .val (.int (0 : Int32)), .unset, .unset, .unset] [])) rfl (hb hby at_104)
      refine Go.step (fun _ k => st42 _ (XS.lloadN X42.here hx rfl (hb hby at_107) rfl (XS.lload X42.here hx rfl (hb hby at_108) rfl k))) ?_
      show Go p e below s _ _ _ T42 (mkF m 110 #[.val (.long q1), .second, .val (.long q2), .second, .val (.int p3), .val (.int md), .val (.long rr), .second, .val (.int (0 : Int32)), .val (.int (1 : Int32)), .val (.int (1 : Int32)), .val (.int (1 : Int32)), .val (.int (0 : Int32)), .unset, .unset, .unset] [(.long rr), (.long q1), (.ref b5)])
      obtain ⟨cq43, kq43, q43a, q43b, q43c⟩ := isOf hZ e42 E_b5
      obtain ⟨_, _, ⟨T43, L43, k43, n43⟩, -, X43, ⟨Lc43, hQ43, l43, y43, z43⟩, st43⟩ := X42.virtualBack hx (y := xm3) (z := xm3) hown (mvT hZ (tw3 hw)) (mvT hZ (tw4 hw)) (notFace_of_selects (args := #[]) (mvT hZ (tw6 hw))) (mvT hZ (tw6 hw)) (mvT hZ (tw5 hw)) (by decide) (backOf (W := 0) (rm_test5 l Z a0 hw [] b5 q1 rr h0 n0 Z0 E_b5 F_ordinal_b5) hZ (tw7 hw) (tw1 hw) (by decide) (by decide)) q43a q43c (g := (mkF m 110 #[.val (.long q1), .second, .val (.long q2), .second, .val (.int p3), .val (.int md), .val (.long rr), .second, .val (.int (0 : Int32)), .val (.int (1 : Int32)), .val (.int (1 : Int32)), .val (.int (1 : Int32)), .val (.int (0 : Int32)), .unset, .unset, .unset] [(.long rr), (.long q1), (.ref b5)])) rfl (by rw [hml]; rfl) (Steps.refl _) (argsL := [(.long q1), (.long rr)]) (rest := []) (lenOf pd_1 rfl) rfl (by show 2 * 0 + _ ≤ _; exact Nat.le_of_eq rfl) (hb hby at_110) (fun _ _ => ⟨rfl, e42, (by decide : 0 + 0 ≤ _), (by decide : 0 + 0 ≤ _)⟩)
      dsimp only [Pt.U, Pt.locs, Pt.cells, Pt.slots] at X43 l43 y43 z43 st43 hQ43
      subst l43 y43 z43
      obtain ⟨rfl, N43q, eq43⟩ := hQ43
      have N44 := Fr.app N41 N43q
      refine Go.step (fun _ k => st43.trans k) ?_
      show Go p e below s _ _ _ T43 (mkF m 113 #[.val (.long q1), .second, .val (.long q2), .second, .val (.int p3), .val (.int md), .val (.long rr), .second, .val (.int (0 : Int32)), .val (.int (1 : Int32)), .val (.int (1 : Int32)), .val (.int (1 : Int32)), .val (.int (0 : Int32)), .unset, .unset, .unset] [(.int (own_b (¬ q1 < rr)))])
      rw [show (own_b (¬ q1 < rr)) = (0 : Int32) from if_neg (not_not_intro h2)]
      refine Go.step (fun _ k => XS.istore X43.here hx rfl (hb hby at_113) rfl (l' := #[.val (.long q1), .second, .val (.long q2), .second, .val (.int p3), .val (.int md), .val (.long rr), .second, .val (.int (0 : Int32)), .val (.int (1 : Int32)), .val (.int (1 : Int32)), .val (.int (1 : Int32)), .val (.int (0 : Int32)), .val (.int (0 : Int32)), .unset, .unset]) rfl (XS.lloadN X43.here hx rfl (hb hby at_115) rfl (XS.lload X43.here hx rfl (hb hby at_116) rfl (XS.lxor X43.here hx rfl (hb hby at_118) rfl (XS.lconst X43.here hx rfl (hb hby at_119) (XS.lcmp X43.here hx rfl (hb hby at_120) rfl (XS.ifYes X43.here hx rfl (pc0 := 121) (pc' := 128) rfl (hb hby at_121) rfl ((if0 _ _).trans (feq ((fun q => h1 ((own_xor q1 rr).mp ((lw_eq _ _).mp q))))).2) (by decide) (by decide) (XS.iconst X43.here hx rfl (hb hby at_128) (XS.istore X43.here hx rfl (hb hby at_129) rfl (l' := #[.val (.long q1), .second, .val (.long q2), .second, .val (.int p3), .val (.int md), .val (.long rr), .second, .val (.int (0 : Int32)), .val (.int (1 : Int32)), .val (.int (1 : Int32)), .val (.int (1 : Int32)), .val (.int (0 : Int32)), .val (.int (0 : Int32)), .val (.int (0 : Int32)), .unset]) rfl (XS.iload X43.here hx rfl (hb hby at_131) rfl k)))))))))) ?_
      show Go p e below s _ _ _ T43 (mkF m 133 #[.val (.long q1), .second, .val (.long q2), .second, .val (.int p3), .val (.int md), .val (.long rr), .second, .val (.int (0 : Int32)), .val (.int (1 : Int32)), .val (.int (1 : Int32)), .val (.int (1 : Int32)), .val (.int (0 : Int32)), .val (.int (0 : Int32)), .val (.int (0 : Int32)), .unset] [(.int (0 : Int32))])
      refine Go.step (fun _ k => XS.iload X43.here hx rfl (hb hby at_133) rfl (XS.icmpNo X43.here hx rfl (hb hby at_135) rfl (teq (by decide)).2 (XS.iconst X43.here hx rfl (hb hby at_138) (XS.goto X43.here hx rfl (pc0 := 139) (pc' := 143) rfl (hb hby at_139) (by decide) (by decide) (XS.istore X43.here hx rfl (hb hby at_143) rfl (l' := #[.val (.long q1), .second, .val (.long q2), .second, .val (.int p3), .val (.int md), .val (.long rr), .second, .val (.int (0 : Int32)), .val (.int (1 : Int32)), .val (.int (1 : Int32)), .val (.int (1 : Int32)), .val (.int (0 : Int32)), .val (.int (0 : Int32)), .val (.int (0 : Int32)), .val (.int (1 : Int32))]) rfl (XS.iload X43.here hx rfl (hb hby at_145) rfl (XS.ifNo X43.here hx rfl (hb hby at_147) rfl ((if0 _ _).trans (feq (by decide)).1) (XS.iload X43.here hx rfl (hb hby at_150) rfl (XS.iload X43.here hx rfl (hb hby at_152) rfl (XS.ifNo X43.here hx rfl (hb hby at_154) rfl ((if0 _ _).trans (teq (by decide)).2) k)))))))))) ?_
      show Go p e below s _ _ _ T43 (mkF m 157 #[.val (.long q1), .second, .val (.long q2), .second, .val (.int p3), .val (.int md), .val (.long rr), .second, .val (.int (0 : Int32)), .val (.int (1 : Int32)), .val (.int (1 : Int32)), .val (.int (1 : Int32)), .val (.int (0 : Int32)), .val (.int (0 : Int32)), .val (.int (0 : Int32)), .val (.int (1 : Int32))] [(.int (1 : Int32))])
      refine Go.step (fun _ k => XS.iconst X43.here hx rfl (hb hby at_157) (XS.goto X43.here hx rfl (pc0 := 158) (pc' := 162) rfl (hb hby at_158) (by decide) (by decide) (XS.icmpNo X43.here hx rfl (hb hby at_162) rfl (teq (by decide)).2 (XS.iconst X43.here hx rfl (hb hby at_165) (XS.goto X43.here hx rfl (pc0 := 166) (pc' := 170) rfl (hb hby at_166) (by decide) (by decide) (XS.istore X43.here hx rfl (hb hby at_170) rfl (l' := #[.val (.long q1), .second, .val (.long q2), .second, .val (.int p3), .val (.int md), .val (.long rr), .second, .val (.int (0 : Int32)), .val (.int (1 : Int32)), .val (.int (1 : Int32)), .val (.int (1 : Int32)), .val (.int (0 : Int32)), .val (.int (0 : Int32)), .val (.int (0 : Int32)), .val (.int (1 : Int32))]) rfl (XS.iload X43.here hx rfl (hb hby at_172) rfl (XS.ifNo X43.here hx rfl (hb hby at_174) rfl ((if0 _ _).trans (feq (by decide)).1) (XS.iload X43.here hx rfl (hb hby at_177) rfl (XS.lloadN X43.here hx rfl (hb hby at_179) rfl k)))))))))) ?_
      show Go p e below s _ _ _ T43 (mkF m 180 #[.val (.long q1), .second, .val (.long q2), .second, .val (.int p3), .val (.int md), .val (.long rr), .second, .val (.int (0 : Int32)), .val (.int (1 : Int32)), .val (.int (1 : Int32)), .val (.int (1 : Int32)), .val (.int (0 : Int32)), .val (.int (0 : Int32)), .val (.int (0 : Int32)), .val (.int (1 : Int32))] [(.long q1), (.int (1 : Int32))])
      refine Go.step (fun _ k => XS.lload X43.here hx rfl (hb hby at_180) rfl k) ?_
      show Go p e below s _ _ _ T43 (mkF m 182 #[.val (.long q1), .second, .val (.long q2), .second, .val (.int p3), .val (.int md), .val (.long rr), .second, .val (.int (0 : Int32)), .val (.int (1 : Int32)), .val (.int (1 : Int32)), .val (.int (1 : Int32)), .val (.int (0 : Int32)), .val (.int (0 : Int32)), .val (.int (0 : Int32)), .val (.int (1 : Int32))] [(.long rr), (.long q1), (.int (1 : Int32))])
      obtain ⟨_, _, ⟨T45, L45, k45, n45⟩, -, X45, ⟨Lc45, hQ45, l45, y45, z45⟩, st45⟩ := Jvm.LawKit.callS X43 hx (y := xm0) hown (mvT hZ (tw27 hw)) (mvT hZ (tw28 hw)) (mvT hZ (tw29 hw)) (mvT hZ (tw30 hw)) (by decide) (backOf (W := 1) (rm_less l Z a0 hw [] q1 rr h0 n0 Z0) hZ (tw30 hw) (tw29 hw) (by decide) (by decide)) (g := (mkF m 182 #[.val (.long q1), .second, .val (.long q2), .second, .val (.int p3), .val (.int md), .val (.long rr), .second, .val (.int (0 : Int32)), .val (.int (1 : Int32)), .val (.int (1 : Int32)), .val (.int (1 : Int32)), .val (.int (0 : Int32)), .val (.int (0 : Int32)), .val (.int (0 : Int32)), .val (.int (1 : Int32))] [(.long rr), (.long q1), (.int (1 : Int32))])) rfl (by rw [hml]; rfl) (argsL := [(.long q1), (.long rr)]) (rest := [(.int (1 : Int32))]) (lenOf pd_1 rfl) rfl (by show 2 * 0 + _ ≤ _; exact Nat.le_of_eq rfl) (hb hby at_182) (fun _ _ => ⟨rfl, eq43, (by decide : 0 + 0 ≤ _), (by decide : 0 + 0 ≤ _)⟩)
      dsimp only [Pt.U, Pt.locs, Pt.cells, Pt.slots] at X45 l45 y45 z45 st45 hQ45
      subst l45 y45 z45
      obtain ⟨rfl, N45q, eq45⟩ := hQ45
      have N46 := Fr.app N44 N45q
      refine Go.step (fun _ k => st45 _ k) ?_
      show Go p e below s _ _ _ T45 (mkF m 185 #[.val (.long q1), .second, .val (.long q2), .second, .val (.int p3), .val (.int md), .val (.long rr), .second, .val (.int (0 : Int32)), .val (.int (1 : Int32)), .val (.int (1 : Int32)), .val (.int (1 : Int32)), .val (.int (0 : Int32)), .val (.int (0 : Int32)), .val (.int (0 : Int32)), .val (.int (1 : Int32))] [(.int (own_b (q1 < rr))), (.int (1 : Int32))])
      rw [show (own_b (q1 < rr)) = (1 : Int32) from if_pos h2]
      refine Go.step (fun _ k => XS.icmpNo X45.here hx rfl (hb hby at_185) rfl (teq (by decide)).2 (XS.iconst X45.here hx rfl (hb hby at_188) (XS.goto X45.here hx rfl (pc0 := 189) (pc' := 193) rfl (hb hby at_189) (by decide) (by decide) (XS.istore X45.here hx rfl (hb hby at_193) rfl (l' := #[.val (.long q1), .second, .val (.long q2), .second, .val (.int p3), .val (.int md), .val (.long rr), .second, .val (.int (0 : Int32)), .val (.int (1 : Int32)), .val (.int (1 : Int32)), .val (.int (1 : Int32)), .val (.int (0 : Int32)), .val (.int (0 : Int32)), .val (.int (0 : Int32)), .val (.int (1 : Int32))]) rfl (XS.iload X45.here hx rfl (hb hby at_195) rfl (XS.ifNo X45.here hx rfl (hb hby at_197) rfl ((if0 _ _).trans (feq (by decide)).1) (XS.iload X45.here hx rfl (hb hby at_200) rfl k))))))) ?_
      show Go p e below s _ _ _ T45 (mkF m 202 #[.val (.long q1), .second, .val (.long q2), .second, .val (.int p3), .val (.int md), .val (.long rr), .second, .val (.int (0 : Int32)), .val (.int (1 : Int32)), .val (.int (1 : Int32)), .val (.int (1 : Int32)), .val (.int (0 : Int32)), .val (.int (0 : Int32)), .val (.int (0 : Int32)), .val (.int (1 : Int32))] [(.int (1 : Int32))])
      obtain ⟨_, _, ⟨T47, L47, k47, n47⟩, -, X47, ⟨Lc47, hQ47, l47, y47, z47⟩, st47⟩ := Jvm.LawKit.callS X45 hx (y := xm4) hown (mvT hZ (tw31 hw)) (mvT hZ (tw32 hw)) (mvT hZ (tw29 hw)) (mvT hZ (tw33 hw)) (by decide) (backOf (W := 0) (rm_one l Z a0 hw [] (1 : Int32) h0 n0 Z0) hZ (tw33 hw) (tw29 hw) (by decide) (by decide)) (g := (mkF m 202 #[.val (.long q1), .second, .val (.long q2), .second, .val (.int p3), .val (.int md), .val (.long rr), .second, .val (.int (0 : Int32)), .val (.int (1 : Int32)), .val (.int (1 : Int32)), .val (.int (1 : Int32)), .val (.int (0 : Int32)), .val (.int (0 : Int32)), .val (.int (0 : Int32)), .val (.int (1 : Int32))] [(.int (1 : Int32))])) rfl (by rw [hml]; rfl) (argsL := [(.int (1 : Int32))]) (rest := []) (lenOf pd_2 rfl) rfl (by show 2 * 0 + _ ≤ _; exact Nat.le_of_eq rfl) (hb hby at_202) (fun _ _ => ⟨rfl, eq45, (by decide : 0 + 0 ≤ _), (by decide : 0 + 0 ≤ _)⟩)
      dsimp only [Pt.U, Pt.locs, Pt.cells, Pt.slots] at X47 l47 y47 z47 st47 hQ47
      subst l47 y47 z47
      obtain ⟨rfl, N47q, eq47⟩ := hQ47
      have N48 := Fr.app N46 N47q
      refine Go.step (fun _ k => st47 _ (XS.iload X47.here hx rfl (hb hby at_205) rfl k)) ?_
      show Go p e below s _ _ _ T47 (mkF m 207 #[.val (.long q1), .second, .val (.long q2), .second, .val (.int p3), .val (.int md), .val (.long rr), .second, .val (.int (0 : Int32)), .val (.int (1 : Int32)), .val (.int (1 : Int32)), .val (.int (1 : Int32)), .val (.int (0 : Int32)), .val (.int (0 : Int32)), .val (.int (0 : Int32)), .val (.int (1 : Int32))] [(.int (0 : Int32)), (.int (1 : Int32))])
      obtain ⟨_, _, ⟨T49, L49, k49, n49⟩, -, X49, ⟨Lc49, hQ49, l49, y49, z49⟩, st49⟩ := Jvm.LawKit.callS X47 hx (y := xm4) hown (mvT hZ (tw31 hw)) (mvT hZ (tw32 hw)) (mvT hZ (tw29 hw)) (mvT hZ (tw33 hw)) (by decide) (backOf (W := 1) (rm_one l Z a0 hw [] (0 : Int32) h0 n0 Z0) hZ (tw33 hw) (tw29 hw) (by decide) (by decide)) (g := (mkF m 207 #[.val (.long q1), .second, .val (.long q2), .second, .val (.int p3), .val (.int md), .val (.long rr), .second, .val (.int (0 : Int32)), .val (.int (1 : Int32)), .val (.int (1 : Int32)), .val (.int (1 : Int32)), .val (.int (0 : Int32)), .val (.int (0 : Int32)), .val (.int (0 : Int32)), .val (.int (1 : Int32))] [(.int (0 : Int32)), (.int (1 : Int32))])) rfl (by rw [hml]; rfl) (argsL := [(.int (0 : Int32))]) (rest := [(.int (1 : Int32))]) (lenOf pd_2 rfl) rfl (by show 2 * 0 + _ ≤ _; exact Nat.le_of_eq rfl) (hb hby at_207) (fun _ _ => ⟨rfl, eq47, (by decide : 0 + 0 ≤ _), (by decide : 0 + 0 ≤ _)⟩)
      dsimp only [Pt.U, Pt.locs, Pt.cells, Pt.slots] at X49 l49 y49 z49 st49 hQ49
      subst l49 y49 z49
      obtain ⟨rfl, N49q, eq49⟩ := hQ49
      have N50 := Fr.app N48 N49q
      refine Go.step (fun _ k => st49 _ (XS.iadd X49.here hx rfl (hb hby at_210) rfl (XS.iload X49.here hx rfl (hb hby at_211) rfl k))) ?_
      show Go p e below s _ _ _ T49 (mkF m 213 #[.val (.long q1), .second, .val (.long q2), .second, .val (.int p3), .val (.int md), .val (.long rr), .second, .val (.int (0 : Int32)), .val (.int (1 : Int32)), .val (.int (1 : Int32)), .val (.int (1 : Int32)), .val (.int (0 : Int32)), .val (.int (0 : Int32)), .val (.int (0 : Int32)), .val (.int (1 : Int32))] [(.int (0 : Int32)), (.int (1 : Int32))])
      obtain ⟨_, _, ⟨T51, L51, k51, n51⟩, -, X51, ⟨Lc51, hQ51, l51, y51, z51⟩, st51⟩ := Jvm.LawKit.callS X49 hx (y := xm4) hown (mvT hZ (tw31 hw)) (mvT hZ (tw32 hw)) (mvT hZ (tw29 hw)) (mvT hZ (tw33 hw)) (by decide) (backOf (W := 1) (rm_one l Z a0 hw [] (0 : Int32) h0 n0 Z0) hZ (tw33 hw) (tw29 hw) (by decide) (by decide)) (g := (mkF m 213 #[.val (.long q1), .second, .val (.long q2), .second, .val (.int p3), .val (.int md), .val (.long rr), .second, .val (.int (0 : Int32)), .val (.int (1 : Int32)), .val (.int (1 : Int32)), .val (.int (1 : Int32)), .val (.int (0 : Int32)), .val (.int (0 : Int32)), .val (.int (0 : Int32)), .val (.int (1 : Int32))] [(.int (0 : Int32)), (.int (1 : Int32))])) rfl (by rw [hml]; rfl) (argsL := [(.int (0 : Int32))]) (rest := [(.int (1 : Int32))]) (lenOf pd_2 rfl) rfl (by show 2 * 0 + _ ≤ _; exact Nat.le_of_eq rfl) (hb hby at_213) (fun _ _ => ⟨rfl, eq49, (by decide : 0 + 0 ≤ _), (by decide : 0 + 0 ≤ _)⟩)
      dsimp only [Pt.U, Pt.locs, Pt.cells, Pt.slots] at X51 l51 y51 z51 st51 hQ51
      subst l51 y51 z51
      obtain ⟨rfl, N51q, eq51⟩ := hQ51
      have N52 := Fr.app N50 N51q
      refine Go.step (fun _ k => st51 _ (XS.iadd X51.here hx rfl (hb hby at_216) rfl (XS.iconst X51.here hx rfl (hb hby at_217) (XS.icmpNo X51.here hx rfl (hb hby at_218) rfl (teq (by decide)).2 (XS.iconst X51.here hx rfl (hb hby at_221) (XS.goto X51.here hx rfl (pc0 := 222) (pc' := 226) rfl (hb hby at_222) (by decide) (by decide) (XS.istore X51.here hx rfl (hb hby at_226) rfl (l' := #[.val (.long q1), .second, .val (.long q2), .second, .val (.int p3), .val (.int md), .val (.long rr), .second, .val (.int (0 : Int32)), .val (.int (1 : Int32)), .val (.int (1 : Int32)), .val (.int (1 : Int32)), .val (.int (0 : Int32)), .val (.int (0 : Int32)), .val (.int (0 : Int32)), .val (.int (1 : Int32))]) rfl (XS.iload X51.here hx rfl (hb hby at_228) rfl (XS.ifNo X51.here hx rfl (hb hby at_230) rfl ((if0 _ _).trans (feq (by decide)).1) (XS.iload X51.here hx rfl (hb hby at_233) rfl k)))))))))) ?_
      show Go p e below s _ _ _ T51 (mkF m 235 #[.val (.long q1), .second, .val (.long q2), .second, .val (.int p3), .val (.int md), .val (.long rr), .second, .val (.int (0 : Int32)), .val (.int (1 : Int32)), .val (.int (1 : Int32)), .val (.int (1 : Int32)), .val (.int (0 : Int32)), .val (.int (0 : Int32)), .val (.int (0 : Int32)), .val (.int (1 : Int32))] [(.int (1 : Int32))])
      refine Go.step (fun _ k => XS.iload X51.here hx rfl (hb hby at_235) rfl (XS.ifYes X51.here hx rfl (pc0 := 237) (pc' := 245) rfl (hb hby at_237) rfl ((if0 _ _).trans (feq (by decide)).2) (by decide) (by decide) (XS.iconst X51.here hx rfl (hb hby at_245) (XS.goto X51.here hx rfl (pc0 := 246) (pc' := 250) rfl (hb hby at_246) (by decide) (by decide) (XS.icmpNo X51.here hx rfl (hb hby at_250) rfl (teq (by decide)).2 (XS.iconst X51.here hx rfl (hb hby at_253) (XS.goto X51.here hx rfl (pc0 := 254) (pc' := 258) rfl (hb hby at_254) (by decide) (by decide) (XS.istore X51.here hx rfl (hb hby at_258) rfl (l' := #[.val (.long q1), .second, .val (.long q2), .second, .val (.int p3), .val (.int md), .val (.long rr), .second, .val (.int (0 : Int32)), .val (.int (1 : Int32)), .val (.int (1 : Int32)), .val (.int (1 : Int32)), .val (.int (0 : Int32)), .val (.int (0 : Int32)), .val (.int (0 : Int32)), .val (.int (1 : Int32))]) rfl (XS.iload X51.here hx rfl (hb hby at_260) rfl (XS.ifNo X51.here hx rfl (hb hby at_262) rfl ((if0 _ _).trans (feq (by decide)).1) k)))))))))) ?_
      show Go p e below s _ _ _ T51 (mkF m 265 #[.val (.long q1), .second, .val (.long q2), .second, .val (.int p3), .val (.int md), .val (.long rr), .second, .val (.int (0 : Int32)), .val (.int (1 : Int32)), .val (.int (1 : Int32)), .val (.int (1 : Int32)), .val (.int (0 : Int32)), .val (.int (0 : Int32)), .val (.int (0 : Int32)), .val (.int (1 : Int32))] [])
      refine Go.step (fun _ k => XS.iload X51.here hx rfl (hb hby at_265) rfl (XS.iload X51.here hx rfl (hb hby at_267) rfl (XS.ifNo X51.here hx rfl (hb hby at_269) rfl ((if0 _ _).trans (teq (by decide)).2) (XS.iload X51.here hx rfl (hb hby at_272) rfl (XS.ifYes X51.here hx rfl (pc0 := 274) (pc' := 281) rfl (hb hby at_274) rfl ((if0 _ _).trans (teq (by decide)).1) (by decide) (by decide) (XS.iconst X51.here hx rfl (hb hby at_281) (XS.icmpNo X51.here hx rfl (hb hby at_282) rfl (teq (by decide)).2 (XS.iconst X51.here hx rfl (hb hby at_285) (XS.goto X51.here hx rfl (pc0 := 286) (pc' := 290) rfl (hb hby at_286) (by decide) (by decide) (XS.istore X51.here hx rfl (hb hby at_290) rfl (l' := #[.val (.long q1), .second, .val (.long q2), .second, .val (.int p3), .val (.int md), .val (.long rr), .second, .val (.int (0 : Int32)), .val (.int (1 : Int32)), .val (.int (1 : Int32)), .val (.int (1 : Int32)), .val (.int (0 : Int32)), .val (.int (0 : Int32)), .val (.int (0 : Int32)), .val (.int (1 : Int32))]) rfl k)))))))))) ?_
      show Go p e below s _ _ _ T51 (mkF m 292 #[.val (.long q1), .second, .val (.long q2), .second, .val (.int p3), .val (.int md), .val (.long rr), .second, .val (.int (0 : Int32)), .val (.int (1 : Int32)), .val (.int (1 : Int32)), .val (.int (1 : Int32)), .val (.int (0 : Int32)), .val (.int (0 : Int32)), .val (.int (0 : Int32)), .val (.int (1 : Int32))] [])
      refine Go.step (fun _ k => XS.iload X51.here hx rfl (hb hby at_292) rfl k) ?_
      show Go p e below s _ _ _ T51 (mkF m 294 #[.val (.long q1), .second, .val (.long q2), .second, .val (.int p3), .val (.int md), .val (.long rr), .second, .val (.int (0 : Int32)), .val (.int (1 : Int32)), .val (.int (1 : Int32)), .val (.int (1 : Int32)), .val (.int (0 : Int32)), .val (.int (0 : Int32)), .val (.int (0 : Int32)), .val (.int (1 : Int32))] [(.int (1 : Int32))])
      exact Go.retN X51 hx hlk (t := .boolean) Bd.returns (by simp) (hb hby at_294) eq51 ⟨rfl, N52⟩ (by decide) (by decide)
    · obtain ⟨T53, X53, e53, st53⟩ := getS2 X0 hx hZ hown (host := "") (Or.inl (tw0 hw)) Via.refl e0 S_EQUAL (g := (mkF m 49 #[.val (.long q1), .second, .val (.long q2), .second, .val (.int p3), .val (.int md), .val (.long rr), .second, .unset, .unset, .unset, .unset, .unset, .unset, .unset, .unset] [])) rfl (hb hby at_49)
      refine Go.step (fun _ k => st53 _ (XS.lloadN X53.here hx rfl (hb hby at_52) rfl (XS.lload X53.here hx rfl (hb hby at_53) rfl k))) ?_
      show Go p e below s _ _ _ T53 (mkF m 55 #[.val (.long q1), .second, .val (.long q2), .second, .val (.int p3), .val (.int md), .val (.long rr), .second, .unset, .unset, .unset, .unset, .unset, .unset, .unset, .unset] [(.long rr), (.long q1), (.ref b0)])
      obtain ⟨cq54, kq54, q54a, q54b, q54c⟩ := isOf hZ e53 E_b0
      obtain ⟨_, _, ⟨T54, L54, k54, n54⟩, -, X54, ⟨Lc54, hQ54, l54, y54, z54⟩, st54⟩ := X53.virtualBack hx (y := xm3) (z := xm3) hown (mvT hZ (tw3 hw)) (mvT hZ (tw4 hw)) (notFace_of_selects (args := #[]) (mvT hZ (tw6 hw))) (mvT hZ (tw6 hw)) (mvT hZ (tw5 hw)) (by decide) (backOf (W := 0) (rm_test0 l Z a0 hw [] b0 q1 rr h0 n0 Z0 E_b0 F_ordinal_b0) hZ (tw7 hw) (tw1 hw) (by decide) (by decide)) q54a q54c (g := (mkF m 55 #[.val (.long q1), .second, .val (.long q2), .second, .val (.int p3), .val (.int md), .val (.long rr), .second, .unset, .unset, .unset, .unset, .unset, .unset, .unset, .unset] [(.long rr), (.long q1), (.ref b0)])) rfl (by rw [hml]; rfl) (Steps.refl _) (argsL := [(.long q1), (.long rr)]) (rest := []) (lenOf pd_1 rfl) rfl (by show 2 * 0 + _ ≤ _; exact Nat.le_of_eq rfl) (hb hby at_55) (fun _ _ => ⟨rfl, e53, (by decide : 0 + 0 ≤ _), (by decide : 0 + 0 ≤ _)⟩)
      dsimp only [Pt.U, Pt.locs, Pt.cells, Pt.slots] at X54 l54 y54 z54 st54 hQ54
      subst l54 y54 z54
      obtain ⟨rfl, N54q, eq54⟩ := hQ54
      have N55 := Fr.app N0 N54q
      refine Go.step (fun _ k => st54.trans k) ?_
      show Go p e below s _ _ _ T54 (mkF m 58 #[.val (.long q1), .second, .val (.long q2), .second, .val (.int p3), .val (.int md), .val (.long rr), .second, .unset, .unset, .unset, .unset, .unset, .unset, .unset, .unset] [(.int (own_b (q1 = rr)))])
      rw [show (own_b (q1 = rr)) = (0 : Int32) from if_neg h1]
      refine Go.step (fun _ k => XS.istore X54.here hx rfl (hb hby at_58) rfl (l' := #[.val (.long q1), .second, .val (.long q2), .second, .val (.int p3), .val (.int md), .val (.long rr), .second, .val (.int (0 : Int32)), .unset, .unset, .unset, .unset, .unset, .unset, .unset]) rfl k) ?_
      show Go p e below s _ _ _ T54 (mkF m 60 #[.val (.long q1), .second, .val (.long q2), .second, .val (.int p3), .val (.int md), .val (.long rr), .second, .val (.int (0 : Int32)), .unset, .unset, .unset, .unset, .unset, .unset, .unset] [])
      obtain ⟨T56, X56, e56, st56⟩ := getS2 X54 hx hZ hown (host := "") (Or.inl (tw17 hw)) Via.refl eq54 S_NOT_EQUAL (g := (mkF m 60 #[.val (.long q1), .second, .val (.long q2), .second, .val (.int p3), .val (.int md), .val (.long rr), .second, .val (.int (0 : Int32)), .unset, .unset, .unset, .unset, .unset, .unset, .unset] [])) rfl (hb hby at_60)
      refine Go.step (fun _ k => st56 _ (XS.lloadN X56.here hx rfl (hb hby at_63) rfl (XS.lload X56.here hx rfl (hb hby at_64) rfl k))) ?_
      show Go p e below s _ _ _ T56 (mkF m 66 #[.val (.long q1), .second, .val (.long q2), .second, .val (.int p3), .val (.int md), .val (.long rr), .second, .val (.int (0 : Int32)), .unset, .unset, .unset, .unset, .unset, .unset, .unset] [(.long rr), (.long q1), (.ref b1)])
      obtain ⟨cq57, kq57, q57a, q57b, q57c⟩ := isOf hZ e56 E_b1
      obtain ⟨_, _, ⟨T57, L57, k57, n57⟩, -, X57, ⟨Lc57, hQ57, l57, y57, z57⟩, st57⟩ := X56.virtualBack hx (y := xm3) (z := xm3) hown (mvT hZ (tw3 hw)) (mvT hZ (tw4 hw)) (notFace_of_selects (args := #[]) (mvT hZ (tw6 hw))) (mvT hZ (tw6 hw)) (mvT hZ (tw5 hw)) (by decide) (backOf (W := 0) (rm_test1 l Z a0 hw [] b1 q1 rr h0 n0 Z0 E_b1 F_ordinal_b1) hZ (tw7 hw) (tw1 hw) (by decide) (by decide)) q57a q57c (g := (mkF m 66 #[.val (.long q1), .second, .val (.long q2), .second, .val (.int p3), .val (.int md), .val (.long rr), .second, .val (.int (0 : Int32)), .unset, .unset, .unset, .unset, .unset, .unset, .unset] [(.long rr), (.long q1), (.ref b1)])) rfl (by rw [hml]; rfl) (Steps.refl _) (argsL := [(.long q1), (.long rr)]) (rest := []) (lenOf pd_1 rfl) rfl (by show 2 * 0 + _ ≤ _; exact Nat.le_of_eq rfl) (hb hby at_66) (fun _ _ => ⟨rfl, e56, (by decide : 0 + 0 ≤ _), (by decide : 0 + 0 ≤ _)⟩)
      dsimp only [Pt.U, Pt.locs, Pt.cells, Pt.slots] at X57 l57 y57 z57 st57 hQ57
      subst l57 y57 z57
      obtain ⟨rfl, N57q, eq57⟩ := hQ57
      have N58 := Fr.app N55 N57q
      refine Go.step (fun _ k => st57.trans k) ?_
      show Go p e below s _ _ _ T57 (mkF m 69 #[.val (.long q1), .second, .val (.long q2), .second, .val (.int p3), .val (.int md), .val (.long rr), .second, .val (.int (0 : Int32)), .unset, .unset, .unset, .unset, .unset, .unset, .unset] [(.int (own_b (¬ q1 = rr)))])
      rw [show (own_b (¬ q1 = rr)) = (1 : Int32) from if_pos h1]
      refine Go.step (fun _ k => XS.istore X57.here hx rfl (hb hby at_69) rfl (l' := #[.val (.long q1), .second, .val (.long q2), .second, .val (.int p3), .val (.int md), .val (.long rr), .second, .val (.int (0 : Int32)), .val (.int (1 : Int32)), .unset, .unset, .unset, .unset, .unset, .unset]) rfl k) ?_
      show Go p e below s _ _ _ T57 (mkF m 71 #[.val (.long q1), .second, .val (.long q2), .second, .val (.int p3), .val (.int md), .val (.long rr), .second, .val (.int (0 : Int32)), .val (.int (1 : Int32)), .unset, .unset, .unset, .unset, .unset, .unset] [])
      obtain ⟨T59, X59, e59, st59⟩ := getS2 X57 hx hZ hown (host := "") (Or.inl (tw19 hw)) Via.refl eq57 S_LESS (g := (mkF m 71 #[.val (.long q1), .second, .val (.long q2), .second, .val (.int p3), .val (.int md), .val (.long rr), .second, .val (.int (0 : Int32)), .val (.int (1 : Int32)), .unset, .unset, .unset, .unset, .unset, .unset] [])) rfl (hb hby at_71)
      refine Go.step (fun _ k => st59 _ (XS.lloadN X59.here hx rfl (hb hby at_74) rfl (XS.lload X59.here hx rfl (hb hby at_75) rfl k))) ?_
      show Go p e below s _ _ _ T59 (mkF m 77 #[.val (.long q1), .second, .val (.long q2), .second, .val (.int p3), .val (.int md), .val (.long rr), .second, .val (.int (0 : Int32)), .val (.int (1 : Int32)), .unset, .unset, .unset, .unset, .unset, .unset] [(.long rr), (.long q1), (.ref b2)])
      obtain ⟨cq60, kq60, q60a, q60b, q60c⟩ := isOf hZ e59 E_b2
      obtain ⟨_, _, ⟨T60, L60, k60, n60⟩, -, X60, ⟨Lc60, hQ60, l60, y60, z60⟩, st60⟩ := X59.virtualBack hx (y := xm3) (z := xm3) hown (mvT hZ (tw3 hw)) (mvT hZ (tw4 hw)) (notFace_of_selects (args := #[]) (mvT hZ (tw6 hw))) (mvT hZ (tw6 hw)) (mvT hZ (tw5 hw)) (by decide) (backOf (W := 0) (rm_test2 l Z a0 hw [] b2 q1 rr h0 n0 Z0 E_b2 F_ordinal_b2) hZ (tw7 hw) (tw1 hw) (by decide) (by decide)) q60a q60c (g := (mkF m 77 #[.val (.long q1), .second, .val (.long q2), .second, .val (.int p3), .val (.int md), .val (.long rr), .second, .val (.int (0 : Int32)), .val (.int (1 : Int32)), .unset, .unset, .unset, .unset, .unset, .unset] [(.long rr), (.long q1), (.ref b2)])) rfl (by rw [hml]; rfl) (Steps.refl _) (argsL := [(.long q1), (.long rr)]) (rest := []) (lenOf pd_1 rfl) rfl (by show 2 * 0 + _ ≤ _; exact Nat.le_of_eq rfl) (hb hby at_77) (fun _ _ => ⟨rfl, e59, (by decide : 0 + 0 ≤ _), (by decide : 0 + 0 ≤ _)⟩)
      dsimp only [Pt.U, Pt.locs, Pt.cells, Pt.slots] at X60 l60 y60 z60 st60 hQ60
      subst l60 y60 z60
      obtain ⟨rfl, N60q, eq60⟩ := hQ60
      have N61 := Fr.app N58 N60q
      refine Go.step (fun _ k => st60.trans k) ?_
      show Go p e below s _ _ _ T60 (mkF m 80 #[.val (.long q1), .second, .val (.long q2), .second, .val (.int p3), .val (.int md), .val (.long rr), .second, .val (.int (0 : Int32)), .val (.int (1 : Int32)), .unset, .unset, .unset, .unset, .unset, .unset] [(.int (own_b (q1 < rr)))])
      rw [show (own_b (q1 < rr)) = (0 : Int32) from if_neg h2]
      refine Go.step (fun _ k => XS.istore X60.here hx rfl (hb hby at_80) rfl (l' := #[.val (.long q1), .second, .val (.long q2), .second, .val (.int p3), .val (.int md), .val (.long rr), .second, .val (.int (0 : Int32)), .val (.int (1 : Int32)), .val (.int (0 : Int32)), .unset, .unset, .unset, .unset, .unset]) rfl k) ?_
      show Go p e below s _ _ _ T60 (mkF m 82 #[.val (.long q1), .second, .val (.long q2), .second, .val (.int p3), .val (.int md), .val (.long rr), .second, .val (.int (0 : Int32)), .val (.int (1 : Int32)), .val (.int (0 : Int32)), .unset, .unset, .unset, .unset, .unset] [])
      obtain ⟨T62, X62, e62, st62⟩ := getS2 X60 hx hZ hown (host := "") (Or.inl (tw21 hw)) Via.refl eq60 S_LESS_OR_EQUAL (g := (mkF m 82 #[.val (.long q1), .second, .val (.long q2), .second, .val (.int p3), .val (.int md), .val (.long rr), .second, .val (.int (0 : Int32)), .val (.int (1 : Int32)), .val (.int (0 : Int32)), .unset, .unset, .unset, .unset, .unset] [])) rfl (hb hby at_82)
      refine Go.step (fun _ k => st62 _ (XS.lloadN X62.here hx rfl (hb hby at_85) rfl (XS.lload X62.here hx rfl (hb hby at_86) rfl k))) ?_
      show Go p e below s _ _ _ T62 (mkF m 88 #[.val (.long q1), .second, .val (.long q2), .second, .val (.int p3), .val (.int md), .val (.long rr), .second, .val (.int (0 : Int32)), .val (.int (1 : Int32)), .val (.int (0 : Int32)), .unset, .unset, .unset, .unset, .unset] [(.long rr), (.long q1), (.ref b3)])
      obtain ⟨cq63, kq63, q63a, q63b, q63c⟩ := isOf hZ e62 E_b3
      obtain ⟨_, _, ⟨T63, L63, k63, n63⟩, -, X63, ⟨Lc63, hQ63, l63, y63, z63⟩, st63⟩ := X62.virtualBack hx (y := xm3) (z := xm3) hown (mvT hZ (tw3 hw)) (mvT hZ (tw4 hw)) (notFace_of_selects (args := #[]) (mvT hZ (tw6 hw))) (mvT hZ (tw6 hw)) (mvT hZ (tw5 hw)) (by decide) (backOf (W := 0) (rm_test3 l Z a0 hw [] b3 q1 rr h0 n0 Z0 E_b3 F_ordinal_b3) hZ (tw7 hw) (tw1 hw) (by decide) (by decide)) q63a q63c (g := (mkF m 88 #[.val (.long q1), .second, .val (.long q2), .second, .val (.int p3), .val (.int md), .val (.long rr), .second, .val (.int (0 : Int32)), .val (.int (1 : Int32)), .val (.int (0 : Int32)), .unset, .unset, .unset, .unset, .unset] [(.long rr), (.long q1), (.ref b3)])) rfl (by rw [hml]; rfl) (Steps.refl _) (argsL := [(.long q1), (.long rr)]) (rest := []) (lenOf pd_1 rfl) rfl (by show 2 * 0 + _ ≤ _; exact Nat.le_of_eq rfl) (hb hby at_88) (fun _ _ => ⟨rfl, e62, (by decide : 0 + 0 ≤ _), (by decide : 0 + 0 ≤ _)⟩)
      dsimp only [Pt.U, Pt.locs, Pt.cells, Pt.slots] at X63 l63 y63 z63 st63 hQ63
      subst l63 y63 z63
      obtain ⟨rfl, N63q, eq63⟩ := hQ63
      have N64 := Fr.app N61 N63q
      refine Go.step (fun _ k => st63.trans k) ?_
      show Go p e below s _ _ _ T63 (mkF m 91 #[.val (.long q1), .second, .val (.long q2), .second, .val (.int p3), .val (.int md), .val (.long rr), .second, .val (.int (0 : Int32)), .val (.int (1 : Int32)), .val (.int (0 : Int32)), .unset, .unset, .unset, .unset, .unset] [(.int (own_b (¬ rr < q1)))])
      rw [show (own_b (¬ rr < q1)) = (0 : Int32) from if_neg (not_not_intro h3)]
      refine Go.step (fun _ k => XS.istore X63.here hx rfl (hb hby at_91) rfl (l' := #[.val (.long q1), .second, .val (.long q2), .second, .val (.int p3), .val (.int md), .val (.long rr), .second, .val (.int (0 : Int32)), .val (.int (1 : Int32)), .val (.int (0 : Int32)), .val (.int (0 : Int32)), .unset, .unset, .unset, .unset]) rfl k) ?_
      show Go p e below s _ _ _ T63 (mkF m 93 #[.val (.long q1), .second, .val (.long q2), .second, .val (.int p3), .val (.int md), .val (.long rr), .second, .val (.int (0 : Int32)), .val (.int (1 : Int32)), .val (.int (0 : Int32)), .val (.int (0 : Int32)), .unset, .unset, .unset, .unset] [])
      obtain ⟨T65, X65, e65, st65⟩ := getS2 X63 hx hZ hown (host := "") (Or.inl (tw23 hw)) Via.refl eq63 S_GREATER (g := (mkF m 93 #[.val (.long q1), .second, .val (.long q2), .second, .val (.int p3), .val (.int md), .val (.long rr), .second, .val (.int (0 : Int32)), .val (.int (1 : Int32)), .val (.int (0 : Int32)), .val (.int (0 : Int32)), .unset, .unset, .unset, .unset] [])) rfl (hb hby at_93)
      refine Go.step (fun _ k => st65 _ (XS.lloadN X65.here hx rfl (hb hby at_96) rfl (XS.lload X65.here hx rfl (hb hby at_97) rfl k))) ?_
      show Go p e below s _ _ _ T65 (mkF m 99 #[.val (.long q1), .second, .val (.long q2), .second, .val (.int p3), .val (.int md), .val (.long rr), .second, .val (.int (0 : Int32)), .val (.int (1 : Int32)), .val (.int (0 : Int32)), .val (.int (0 : Int32)), .unset, .unset, .unset, .unset] [(.long rr), (.long q1), (.ref b4)])
      obtain ⟨cq66, kq66, q66a, q66b, q66c⟩ := isOf hZ e65 E_b4
      obtain ⟨_, _, ⟨T66, L66, k66, n66⟩, -, X66, ⟨Lc66, hQ66, l66, y66, z66⟩, st66⟩ := X65.virtualBack hx (y := xm3) (z := xm3) hown (mvT hZ (tw3 hw)) (mvT hZ (tw4 hw)) (notFace_of_selects (args := #[]) (mvT hZ (tw6 hw))) (mvT hZ (tw6 hw)) (mvT hZ (tw5 hw)) (by decide) (backOf (W := 0) (rm_test4 l Z a0 hw [] b4 q1 rr h0 n0 Z0 E_b4 F_ordinal_b4) hZ (tw7 hw) (tw1 hw) (by decide) (by decide)) q66a q66c (g := (mkF m 99 #[.val (.long q1), .second, .val (.long q2), .second, .val (.int p3), .val (.int md), .val (.long rr), .second, .val (.int (0 : Int32)), .val (.int (1 : Int32)), .val (.int (0 : Int32)), .val (.int (0 : Int32)), .unset, .unset, .unset, .unset] [(.long rr), (.long q1), (.ref b4)])) rfl (by rw [hml]; rfl) (Steps.refl _) (argsL := [(.long q1), (.long rr)]) (rest := []) (lenOf pd_1 rfl) rfl (by show 2 * 0 + _ ≤ _; exact Nat.le_of_eq rfl) (hb hby at_99) (fun _ _ => ⟨rfl, e65, (by decide : 0 + 0 ≤ _), (by decide : 0 + 0 ≤ _)⟩)
      dsimp only [Pt.U, Pt.locs, Pt.cells, Pt.slots] at X66 l66 y66 z66 st66 hQ66
      subst l66 y66 z66
      obtain ⟨rfl, N66q, eq66⟩ := hQ66
      have N67 := Fr.app N64 N66q
      refine Go.step (fun _ k => st66.trans k) ?_
      show Go p e below s _ _ _ T66 (mkF m 102 #[.val (.long q1), .second, .val (.long q2), .second, .val (.int p3), .val (.int md), .val (.long rr), .second, .val (.int (0 : Int32)), .val (.int (1 : Int32)), .val (.int (0 : Int32)), .val (.int (0 : Int32)), .unset, .unset, .unset, .unset] [(.int (own_b (rr < q1)))])
      rw [show (own_b (rr < q1)) = (1 : Int32) from if_pos h3]
      refine Go.step (fun _ k => XS.istore X66.here hx rfl (hb hby at_102) rfl (l' := #[.val (.long q1), .second, .val (.long q2), .second, .val (.int p3), .val (.int md), .val (.long rr), .second, .val (.int (0 : Int32)), .val (.int (1 : Int32)), .val (.int (0 : Int32)), .val (.int (0 : Int32)), .val (.int (1 : Int32)), .unset, .unset, .unset]) rfl k) ?_
      show Go p e below s _ _ _ T66 (mkF m 104 #[.val (.long q1), .second, .val (.long q2), .second, .val (.int p3), .val (.int md), .val (.long rr), .second, .val (.int (0 : Int32)), .val (.int (1 : Int32)), .val (.int (0 : Int32)), .val (.int (0 : Int32)), .val (.int (1 : Int32)), .unset, .unset, .unset] [])
      obtain ⟨T68, X68, e68, st68⟩ := getS2 X66 hx hZ hown (host := "") (Or.inl (tw25 hw)) Via.refl eq66 S_GREATER_OR_EQUAL (g := (mkF m 104 #[.val (.long q1), .second, .val (.long q2), .second, .val (.int p3), .val (.int md), .val (.long rr), .second, .val (.int (0 : Int32)), .val (.int (1 : Int32)), .val (.int (0 : Int32)), .val (.int (0 : Int32)), .val (.int (1 : Int32)), .unset, .unset, .unset] [])) rfl (hb hby at_104)
      refine Go.step (fun _ k => st68 _ (XS.lloadN X68.here hx rfl (hb hby at_107) rfl (XS.lload X68.here hx rfl (hb hby at_108) rfl k))) ?_
      show Go p e below s _ _ _ T68 (mkF m 110 #[.val (.long q1), .second, .val (.long q2), .second, .val (.int p3), .val (.int md), .val (.long rr), .second, .val (.int (0 : Int32)), .val (.int (1 : Int32)), .val (.int (0 : Int32)), .val (.int (0 : Int32)), .val (.int (1 : Int32)), .unset, .unset, .unset] [(.long rr), (.long q1), (.ref b5)])
      obtain ⟨cq69, kq69, q69a, q69b, q69c⟩ := isOf hZ e68 E_b5
      obtain ⟨_, _, ⟨T69, L69, k69, n69⟩, -, X69, ⟨Lc69, hQ69, l69, y69, z69⟩, st69⟩ := X68.virtualBack hx (y := xm3) (z := xm3) hown (mvT hZ (tw3 hw)) (mvT hZ (tw4 hw)) (notFace_of_selects (args := #[]) (mvT hZ (tw6 hw))) (mvT hZ (tw6 hw)) (mvT hZ (tw5 hw)) (by decide) (backOf (W := 0) (rm_test5 l Z a0 hw [] b5 q1 rr h0 n0 Z0 E_b5 F_ordinal_b5) hZ (tw7 hw) (tw1 hw) (by decide) (by decide)) q69a q69c (g := (mkF m 110 #[.val (.long q1), .second, .val (.long q2), .second, .val (.int p3), .val (.int md), .val (.long rr), .second, .val (.int (0 : Int32)), .val (.int (1 : Int32)), .val (.int (0 : Int32)), .val (.int (0 : Int32)), .val (.int (1 : Int32)), .unset, .unset, .unset] [(.long rr), (.long q1), (.ref b5)])) rfl (by rw [hml]; rfl) (Steps.refl _) (argsL := [(.long q1), (.long rr)]) (rest := []) (lenOf pd_1 rfl) rfl (by show 2 * 0 + _ ≤ _; exact Nat.le_of_eq rfl) (hb hby at_110) (fun _ _ => ⟨rfl, e68, (by decide : 0 + 0 ≤ _), (by decide : 0 + 0 ≤ _)⟩)
      dsimp only [Pt.U, Pt.locs, Pt.cells, Pt.slots] at X69 l69 y69 z69 st69 hQ69
      subst l69 y69 z69
      obtain ⟨rfl, N69q, eq69⟩ := hQ69
      have N70 := Fr.app N67 N69q
      refine Go.step (fun _ k => st69.trans k) ?_
      show Go p e below s _ _ _ T69 (mkF m 113 #[.val (.long q1), .second, .val (.long q2), .second, .val (.int p3), .val (.int md), .val (.long rr), .second, .val (.int (0 : Int32)), .val (.int (1 : Int32)), .val (.int (0 : Int32)), .val (.int (0 : Int32)), .val (.int (1 : Int32)), .unset, .unset, .unset] [(.int (own_b (¬ q1 < rr)))])
      rw [show (own_b (¬ q1 < rr)) = (1 : Int32) from if_pos h2]
      refine Go.step (fun _ k => XS.istore X69.here hx rfl (hb hby at_113) rfl (l' := #[.val (.long q1), .second, .val (.long q2), .second, .val (.int p3), .val (.int md), .val (.long rr), .second, .val (.int (0 : Int32)), .val (.int (1 : Int32)), .val (.int (0 : Int32)), .val (.int (0 : Int32)), .val (.int (1 : Int32)), .val (.int (1 : Int32)), .unset, .unset]) rfl (XS.lloadN X69.here hx rfl (hb hby at_115) rfl (XS.lload X69.here hx rfl (hb hby at_116) rfl (XS.lxor X69.here hx rfl (hb hby at_118) rfl (XS.lconst X69.here hx rfl (hb hby at_119) (XS.lcmp X69.here hx rfl (hb hby at_120) rfl (XS.ifYes X69.here hx rfl (pc0 := 121) (pc' := 128) rfl (hb hby at_121) rfl ((if0 _ _).trans (feq ((fun q => h1 ((own_xor q1 rr).mp ((lw_eq _ _).mp q))))).2) (by decide) (by decide) (XS.iconst X69.here hx rfl (hb hby at_128) (XS.istore X69.here hx rfl (hb hby at_129) rfl (l' := #[.val (.long q1), .second, .val (.long q2), .second, .val (.int p3), .val (.int md), .val (.long rr), .second, .val (.int (0 : Int32)), .val (.int (1 : Int32)), .val (.int (0 : Int32)), .val (.int (0 : Int32)), .val (.int (1 : Int32)), .val (.int (1 : Int32)), .val (.int (0 : Int32)), .unset]) rfl (XS.iload X69.here hx rfl (hb hby at_131) rfl k)))))))))) ?_
      show Go p e below s _ _ _ T69 (mkF m 133 #[.val (.long q1), .second, .val (.long q2), .second, .val (.int p3), .val (.int md), .val (.long rr), .second, .val (.int (0 : Int32)), .val (.int (1 : Int32)), .val (.int (0 : Int32)), .val (.int (0 : Int32)), .val (.int (1 : Int32)), .val (.int (1 : Int32)), .val (.int (0 : Int32)), .unset] [(.int (0 : Int32))])
      refine Go.step (fun _ k => XS.iload X69.here hx rfl (hb hby at_133) rfl (XS.icmpNo X69.here hx rfl (hb hby at_135) rfl (teq (by decide)).2 (XS.iconst X69.here hx rfl (hb hby at_138) (XS.goto X69.here hx rfl (pc0 := 139) (pc' := 143) rfl (hb hby at_139) (by decide) (by decide) (XS.istore X69.here hx rfl (hb hby at_143) rfl (l' := #[.val (.long q1), .second, .val (.long q2), .second, .val (.int p3), .val (.int md), .val (.long rr), .second, .val (.int (0 : Int32)), .val (.int (1 : Int32)), .val (.int (0 : Int32)), .val (.int (0 : Int32)), .val (.int (1 : Int32)), .val (.int (1 : Int32)), .val (.int (0 : Int32)), .val (.int (1 : Int32))]) rfl (XS.iload X69.here hx rfl (hb hby at_145) rfl (XS.ifNo X69.here hx rfl (hb hby at_147) rfl ((if0 _ _).trans (feq (by decide)).1) (XS.iload X69.here hx rfl (hb hby at_150) rfl (XS.iload X69.here hx rfl (hb hby at_152) rfl (XS.ifNo X69.here hx rfl (hb hby at_154) rfl ((if0 _ _).trans (teq (by decide)).2) k)))))))))) ?_
      show Go p e below s _ _ _ T69 (mkF m 157 #[.val (.long q1), .second, .val (.long q2), .second, .val (.int p3), .val (.int md), .val (.long rr), .second, .val (.int (0 : Int32)), .val (.int (1 : Int32)), .val (.int (0 : Int32)), .val (.int (0 : Int32)), .val (.int (1 : Int32)), .val (.int (1 : Int32)), .val (.int (0 : Int32)), .val (.int (1 : Int32))] [(.int (1 : Int32))])
      refine Go.step (fun _ k => XS.iconst X69.here hx rfl (hb hby at_157) (XS.goto X69.here hx rfl (pc0 := 158) (pc' := 162) rfl (hb hby at_158) (by decide) (by decide) (XS.icmpNo X69.here hx rfl (hb hby at_162) rfl (teq (by decide)).2 (XS.iconst X69.here hx rfl (hb hby at_165) (XS.goto X69.here hx rfl (pc0 := 166) (pc' := 170) rfl (hb hby at_166) (by decide) (by decide) (XS.istore X69.here hx rfl (hb hby at_170) rfl (l' := #[.val (.long q1), .second, .val (.long q2), .second, .val (.int p3), .val (.int md), .val (.long rr), .second, .val (.int (0 : Int32)), .val (.int (1 : Int32)), .val (.int (0 : Int32)), .val (.int (0 : Int32)), .val (.int (1 : Int32)), .val (.int (1 : Int32)), .val (.int (0 : Int32)), .val (.int (1 : Int32))]) rfl (XS.iload X69.here hx rfl (hb hby at_172) rfl (XS.ifNo X69.here hx rfl (hb hby at_174) rfl ((if0 _ _).trans (feq (by decide)).1) (XS.iload X69.here hx rfl (hb hby at_177) rfl (XS.lloadN X69.here hx rfl (hb hby at_179) rfl k)))))))))) ?_
      show Go p e below s _ _ _ T69 (mkF m 180 #[.val (.long q1), .second, .val (.long q2), .second, .val (.int p3), .val (.int md), .val (.long rr), .second, .val (.int (0 : Int32)), .val (.int (1 : Int32)), .val (.int (0 : Int32)), .val (.int (0 : Int32)), .val (.int (1 : Int32)), .val (.int (1 : Int32)), .val (.int (0 : Int32)), .val (.int (1 : Int32))] [(.long q1), (.int (0 : Int32))])
      refine Go.step (fun _ k => XS.lload X69.here hx rfl (hb hby at_180) rfl k) ?_
      show Go p e below s _ _ _ T69 (mkF m 182 #[.val (.long q1), .second, .val (.long q2), .second, .val (.int p3), .val (.int md), .val (.long rr), .second, .val (.int (0 : Int32)), .val (.int (1 : Int32)), .val (.int (0 : Int32)), .val (.int (0 : Int32)), .val (.int (1 : Int32)), .val (.int (1 : Int32)), .val (.int (0 : Int32)), .val (.int (1 : Int32))] [(.long rr), (.long q1), (.int (0 : Int32))])
      obtain ⟨_, _, ⟨T71, L71, k71, n71⟩, -, X71, ⟨Lc71, hQ71, l71, y71, z71⟩, st71⟩ := Jvm.LawKit.callS X69 hx (y := xm0) hown (mvT hZ (tw27 hw)) (mvT hZ (tw28 hw)) (mvT hZ (tw29 hw)) (mvT hZ (tw30 hw)) (by decide) (backOf (W := 1) (rm_less l Z a0 hw [] q1 rr h0 n0 Z0) hZ (tw30 hw) (tw29 hw) (by decide) (by decide)) (g := (mkF m 182 #[.val (.long q1), .second, .val (.long q2), .second, .val (.int p3), .val (.int md), .val (.long rr), .second, .val (.int (0 : Int32)), .val (.int (1 : Int32)), .val (.int (0 : Int32)), .val (.int (0 : Int32)), .val (.int (1 : Int32)), .val (.int (1 : Int32)), .val (.int (0 : Int32)), .val (.int (1 : Int32))] [(.long rr), (.long q1), (.int (0 : Int32))])) rfl (by rw [hml]; rfl) (argsL := [(.long q1), (.long rr)]) (rest := [(.int (0 : Int32))]) (lenOf pd_1 rfl) rfl (by show 2 * 0 + _ ≤ _; exact Nat.le_of_eq rfl) (hb hby at_182) (fun _ _ => ⟨rfl, eq69, (by decide : 0 + 0 ≤ _), (by decide : 0 + 0 ≤ _)⟩)
      dsimp only [Pt.U, Pt.locs, Pt.cells, Pt.slots] at X71 l71 y71 z71 st71 hQ71
      subst l71 y71 z71
      obtain ⟨rfl, N71q, eq71⟩ := hQ71
      have N72 := Fr.app N70 N71q
      refine Go.step (fun _ k => st71 _ k) ?_
      show Go p e below s _ _ _ T71 (mkF m 185 #[.val (.long q1), .second, .val (.long q2), .second, .val (.int p3), .val (.int md), .val (.long rr), .second, .val (.int (0 : Int32)), .val (.int (1 : Int32)), .val (.int (0 : Int32)), .val (.int (0 : Int32)), .val (.int (1 : Int32)), .val (.int (1 : Int32)), .val (.int (0 : Int32)), .val (.int (1 : Int32))] [(.int (own_b (q1 < rr))), (.int (0 : Int32))])
      rw [show (own_b (q1 < rr)) = (0 : Int32) from if_neg h2]
      refine Go.step (fun _ k => XS.icmpNo X71.here hx rfl (hb hby at_185) rfl (teq (by decide)).2 (XS.iconst X71.here hx rfl (hb hby at_188) (XS.goto X71.here hx rfl (pc0 := 189) (pc' := 193) rfl (hb hby at_189) (by decide) (by decide) (XS.istore X71.here hx rfl (hb hby at_193) rfl (l' := #[.val (.long q1), .second, .val (.long q2), .second, .val (.int p3), .val (.int md), .val (.long rr), .second, .val (.int (0 : Int32)), .val (.int (1 : Int32)), .val (.int (0 : Int32)), .val (.int (0 : Int32)), .val (.int (1 : Int32)), .val (.int (1 : Int32)), .val (.int (0 : Int32)), .val (.int (1 : Int32))]) rfl (XS.iload X71.here hx rfl (hb hby at_195) rfl (XS.ifNo X71.here hx rfl (hb hby at_197) rfl ((if0 _ _).trans (feq (by decide)).1) (XS.iload X71.here hx rfl (hb hby at_200) rfl k))))))) ?_
      show Go p e below s _ _ _ T71 (mkF m 202 #[.val (.long q1), .second, .val (.long q2), .second, .val (.int p3), .val (.int md), .val (.long rr), .second, .val (.int (0 : Int32)), .val (.int (1 : Int32)), .val (.int (0 : Int32)), .val (.int (0 : Int32)), .val (.int (1 : Int32)), .val (.int (1 : Int32)), .val (.int (0 : Int32)), .val (.int (1 : Int32))] [(.int (0 : Int32))])
      obtain ⟨_, _, ⟨T73, L73, k73, n73⟩, -, X73, ⟨Lc73, hQ73, l73, y73, z73⟩, st73⟩ := Jvm.LawKit.callS X71 hx (y := xm4) hown (mvT hZ (tw31 hw)) (mvT hZ (tw32 hw)) (mvT hZ (tw29 hw)) (mvT hZ (tw33 hw)) (by decide) (backOf (W := 0) (rm_one l Z a0 hw [] (0 : Int32) h0 n0 Z0) hZ (tw33 hw) (tw29 hw) (by decide) (by decide)) (g := (mkF m 202 #[.val (.long q1), .second, .val (.long q2), .second, .val (.int p3), .val (.int md), .val (.long rr), .second, .val (.int (0 : Int32)), .val (.int (1 : Int32)), .val (.int (0 : Int32)), .val (.int (0 : Int32)), .val (.int (1 : Int32)), .val (.int (1 : Int32)), .val (.int (0 : Int32)), .val (.int (1 : Int32))] [(.int (0 : Int32))])) rfl (by rw [hml]; rfl) (argsL := [(.int (0 : Int32))]) (rest := []) (lenOf pd_2 rfl) rfl (by show 2 * 0 + _ ≤ _; exact Nat.le_of_eq rfl) (hb hby at_202) (fun _ _ => ⟨rfl, eq71, (by decide : 0 + 0 ≤ _), (by decide : 0 + 0 ≤ _)⟩)
      dsimp only [Pt.U, Pt.locs, Pt.cells, Pt.slots] at X73 l73 y73 z73 st73 hQ73
      subst l73 y73 z73
      obtain ⟨rfl, N73q, eq73⟩ := hQ73
      have N74 := Fr.app N72 N73q
      refine Go.step (fun _ k => st73 _ (XS.iload X73.here hx rfl (hb hby at_205) rfl k)) ?_
      show Go p e below s _ _ _ T73 (mkF m 207 #[.val (.long q1), .second, .val (.long q2), .second, .val (.int p3), .val (.int md), .val (.long rr), .second, .val (.int (0 : Int32)), .val (.int (1 : Int32)), .val (.int (0 : Int32)), .val (.int (0 : Int32)), .val (.int (1 : Int32)), .val (.int (1 : Int32)), .val (.int (0 : Int32)), .val (.int (1 : Int32))] [(.int (0 : Int32)), (.int (0 : Int32))])
      obtain ⟨_, _, ⟨T75, L75, k75, n75⟩, -, X75, ⟨Lc75, hQ75, l75, y75, z75⟩, st75⟩ := Jvm.LawKit.callS X73 hx (y := xm4) hown (mvT hZ (tw31 hw)) (mvT hZ (tw32 hw)) (mvT hZ (tw29 hw)) (mvT hZ (tw33 hw)) (by decide) (backOf (W := 1) (rm_one l Z a0 hw [] (0 : Int32) h0 n0 Z0) hZ (tw33 hw) (tw29 hw) (by decide) (by decide)) (g := (mkF m 207 #[.val (.long q1), .second, .val (.long q2), .second, .val (.int p3), .val (.int md), .val (.long rr), .second, .val (.int (0 : Int32)), .val (.int (1 : Int32)), .val (.int (0 : Int32)), .val (.int (0 : Int32)), .val (.int (1 : Int32)), .val (.int (1 : Int32)), .val (.int (0 : Int32)), .val (.int (1 : Int32))] [(.int (0 : Int32)), (.int (0 : Int32))])) rfl (by rw [hml]; rfl) (argsL := [(.int (0 : Int32))]) (rest := [(.int (0 : Int32))]) (lenOf pd_2 rfl) rfl (by show 2 * 0 + _ ≤ _; exact Nat.le_of_eq rfl) (hb hby at_207) (fun _ _ => ⟨rfl, eq73, (by decide : 0 + 0 ≤ _), (by decide : 0 + 0 ≤ _)⟩)
      dsimp only [Pt.U, Pt.locs, Pt.cells, Pt.slots] at X75 l75 y75 z75 st75 hQ75
      subst l75 y75 z75
      obtain ⟨rfl, N75q, eq75⟩ := hQ75
      have N76 := Fr.app N74 N75q
      refine Go.step (fun _ k => st75 _ (XS.iadd X75.here hx rfl (hb hby at_210) rfl (XS.iload X75.here hx rfl (hb hby at_211) rfl k))) ?_
      show Go p e below s _ _ _ T75 (mkF m 213 #[.val (.long q1), .second, .val (.long q2), .second, .val (.int p3), .val (.int md), .val (.long rr), .second, .val (.int (0 : Int32)), .val (.int (1 : Int32)), .val (.int (0 : Int32)), .val (.int (0 : Int32)), .val (.int (1 : Int32)), .val (.int (1 : Int32)), .val (.int (0 : Int32)), .val (.int (1 : Int32))] [(.int (1 : Int32)), (.int (0 : Int32))])
      obtain ⟨_, _, ⟨T77, L77, k77, n77⟩, -, X77, ⟨Lc77, hQ77, l77, y77, z77⟩, st77⟩ := Jvm.LawKit.callS X75 hx (y := xm4) hown (mvT hZ (tw31 hw)) (mvT hZ (tw32 hw)) (mvT hZ (tw29 hw)) (mvT hZ (tw33 hw)) (by decide) (backOf (W := 1) (rm_one l Z a0 hw [] (1 : Int32) h0 n0 Z0) hZ (tw33 hw) (tw29 hw) (by decide) (by decide)) (g := (mkF m 213 #[.val (.long q1), .second, .val (.long q2), .second, .val (.int p3), .val (.int md), .val (.long rr), .second, .val (.int (0 : Int32)), .val (.int (1 : Int32)), .val (.int (0 : Int32)), .val (.int (0 : Int32)), .val (.int (1 : Int32)), .val (.int (1 : Int32)), .val (.int (0 : Int32)), .val (.int (1 : Int32))] [(.int (1 : Int32)), (.int (0 : Int32))])) rfl (by rw [hml]; rfl) (argsL := [(.int (1 : Int32))]) (rest := [(.int (0 : Int32))]) (lenOf pd_2 rfl) rfl (by show 2 * 0 + _ ≤ _; exact Nat.le_of_eq rfl) (hb hby at_213) (fun _ _ => ⟨rfl, eq75, (by decide : 0 + 0 ≤ _), (by decide : 0 + 0 ≤ _)⟩)
      dsimp only [Pt.U, Pt.locs, Pt.cells, Pt.slots] at X77 l77 y77 z77 st77 hQ77
      subst l77 y77 z77
      obtain ⟨rfl, N77q, eq77⟩ := hQ77
      have N78 := Fr.app N76 N77q
      refine Go.step (fun _ k => st77 _ (XS.iadd X77.here hx rfl (hb hby at_216) rfl (XS.iconst X77.here hx rfl (hb hby at_217) (XS.icmpNo X77.here hx rfl (hb hby at_218) rfl (teq (by decide)).2 (XS.iconst X77.here hx rfl (hb hby at_221) (XS.goto X77.here hx rfl (pc0 := 222) (pc' := 226) rfl (hb hby at_222) (by decide) (by decide) (XS.istore X77.here hx rfl (hb hby at_226) rfl (l' := #[.val (.long q1), .second, .val (.long q2), .second, .val (.int p3), .val (.int md), .val (.long rr), .second, .val (.int (0 : Int32)), .val (.int (1 : Int32)), .val (.int (0 : Int32)), .val (.int (0 : Int32)), .val (.int (1 : Int32)), .val (.int (1 : Int32)), .val (.int (0 : Int32)), .val (.int (1 : Int32))]) rfl (XS.iload X77.here hx rfl (hb hby at_228) rfl (XS.ifNo X77.here hx rfl (hb hby at_230) rfl ((if0 _ _).trans (feq (by decide)).1) (XS.iload X77.here hx rfl (hb hby at_233) rfl k)))))))))) ?_
      show Go p e below s _ _ _ T77 (mkF m 235 #[.val (.long q1), .second, .val (.long q2), .second, .val (.int p3), .val (.int md), .val (.long rr), .second, .val (.int (0 : Int32)), .val (.int (1 : Int32)), .val (.int (0 : Int32)), .val (.int (0 : Int32)), .val (.int (1 : Int32)), .val (.int (1 : Int32)), .val (.int (0 : Int32)), .val (.int (1 : Int32))] [(.int (0 : Int32))])
      refine Go.step (fun _ k => XS.iload X77.here hx rfl (hb hby at_235) rfl (XS.ifNo X77.here hx rfl (hb hby at_237) rfl ((if0 _ _).trans (teq (by decide)).2) (XS.iload X77.here hx rfl (hb hby at_240) rfl (XS.ifYes X77.here hx rfl (pc0 := 242) (pc' := 249) rfl (hb hby at_242) rfl ((if0 _ _).trans (teq (by decide)).1) (by decide) (by decide) (XS.iconst X77.here hx rfl (hb hby at_249) (XS.icmpNo X77.here hx rfl (hb hby at_250) rfl (teq (by decide)).2 (XS.iconst X77.here hx rfl (hb hby at_253) (XS.goto X77.here hx rfl (pc0 := 254) (pc' := 258) rfl (hb hby at_254) (by decide) (by decide) (XS.istore X77.here hx rfl (hb hby at_258) rfl (l' := #[.val (.long q1), .second, .val (.long q2), .second, .val (.int p3), .val (.int md), .val (.long rr), .second, .val (.int (0 : Int32)), .val (.int (1 : Int32)), .val (.int (0 : Int32)), .val (.int (0 : Int32)), .val (.int (1 : Int32)), .val (.int (1 : Int32)), .val (.int (0 : Int32)), .val (.int (1 : Int32))]) rfl (XS.iload X77.here hx rfl (hb hby at_260) rfl k)))))))))) ?_
      show Go p e below s _ _ _ T77 (mkF m 262 #[.val (.long q1), .second, .val (.long q2), .second, .val (.int p3), .val (.int md), .val (.long rr), .second, .val (.int (0 : Int32)), .val (.int (1 : Int32)), .val (.int (0 : Int32)), .val (.int (0 : Int32)), .val (.int (1 : Int32)), .val (.int (1 : Int32)), .val (.int (0 : Int32)), .val (.int (1 : Int32))] [(.int (1 : Int32))])
      refine Go.step (fun _ k => XS.ifNo X77.here hx rfl (hb hby at_262) rfl ((if0 _ _).trans (feq (by decide)).1) (XS.iload X77.here hx rfl (hb hby at_265) rfl (XS.iload X77.here hx rfl (hb hby at_267) rfl (XS.ifYes X77.here hx rfl (pc0 := 269) (pc' := 277) rfl (hb hby at_269) rfl ((if0 _ _).trans (feq (by decide)).2) (by decide) (by decide) (XS.iconst X77.here hx rfl (hb hby at_277) (XS.goto X77.here hx rfl (pc0 := 278) (pc' := 282) rfl (hb hby at_278) (by decide) (by decide) (XS.icmpNo X77.here hx rfl (hb hby at_282) rfl (teq (by decide)).2 (XS.iconst X77.here hx rfl (hb hby at_285) (XS.goto X77.here hx rfl (pc0 := 286) (pc' := 290) rfl (hb hby at_286) (by decide) (by decide) (XS.istore X77.here hx rfl (hb hby at_290) rfl (l' := #[.val (.long q1), .second, .val (.long q2), .second, .val (.int p3), .val (.int md), .val (.long rr), .second, .val (.int (0 : Int32)), .val (.int (1 : Int32)), .val (.int (0 : Int32)), .val (.int (0 : Int32)), .val (.int (1 : Int32)), .val (.int (1 : Int32)), .val (.int (0 : Int32)), .val (.int (1 : Int32))]) rfl k)))))))))) ?_
      show Go p e below s _ _ _ T77 (mkF m 292 #[.val (.long q1), .second, .val (.long q2), .second, .val (.int p3), .val (.int md), .val (.long rr), .second, .val (.int (0 : Int32)), .val (.int (1 : Int32)), .val (.int (0 : Int32)), .val (.int (0 : Int32)), .val (.int (1 : Int32)), .val (.int (1 : Int32)), .val (.int (0 : Int32)), .val (.int (1 : Int32))] [])
      refine Go.step (fun _ k => XS.iload X77.here hx rfl (hb hby at_292) rfl k) ?_
      show Go p e below s _ _ _ T77 (mkF m 294 #[.val (.long q1), .second, .val (.long q2), .second, .val (.int p3), .val (.int md), .val (.long rr), .second, .val (.int (0 : Int32)), .val (.int (1 : Int32)), .val (.int (0 : Int32)), .val (.int (0 : Int32)), .val (.int (1 : Int32)), .val (.int (1 : Int32)), .val (.int (0 : Int32)), .val (.int (1 : Int32))] [(.int (1 : Int32))])
      exact Go.retN X77 hx hlk (t := .boolean) Bd.returns (by simp) (hb hby at_294) eq77 ⟨rfl, N78⟩ (by decide) (by decide)
  refine Go.step (fun _ k => XS.iload X0.here hx rfl (hb hby at_0) rfl (XS.iconst X0.here hx rfl (hb hby at_2) (XS.iand X0.here hx rfl (hb hby at_3) rfl (XS.istore X0.here hx rfl (hb hby at_4) rfl (l' := #[.val (.long q1), .second, .val (.long q2), .second, .val (.int p3), .val (.int (p3 &&& (3 : Int32))), .unset, .unset, .unset, .unset, .unset, .unset, .unset, .unset, .unset, .unset]) rfl (XS.iload X0.here hx rfl (hb hby at_6) rfl (XS.iconst X0.here hx rfl (hb hby at_8) k)))))) ?_
  show Go p e below s _ _ _ s₁ (mkF m 9 #[.val (.long q1), .second, .val (.long q2), .second, .val (.int p3), .val (.int (p3 &&& (3 : Int32))), .unset, .unset, .unset, .unset, .unset, .unset, .unset, .unset, .unset, .unset] [(.int (1 : Int32)), (.int (p3 &&& (3 : Int32)))])
  by_cases hc1 : (p3 &&& (3 : Int32)) = (1 : Int32)
  · refine Go.step (fun _ k => XS.icmpNo X0.here hx rfl (hb hby at_9) rfl (teq hc1).2 (XS.lloadN X0.here hx rfl (hb hby at_12) rfl (XS.lstore X0.here hx rfl (hb hby at_13) rfl (l' := #[.val (.long q1), .second, .val (.long q2), .second, .val (.int p3), .val (.int (p3 &&& (3 : Int32))), .val (.long q1), .second, .unset, .unset, .unset, .unset, .unset, .unset, .unset, .unset]) rfl (XS.goto X0.here hx rfl (pc0 := 15) (pc' := 49) rfl (hb hby at_15) (by decide) (by decide) k)))) ?_
    show Go p e below s _ _ _ s₁ (mkF m 49 #[.val (.long q1), .second, .val (.long q2), .second, .val (.int p3), .val (.int (p3 &&& (3 : Int32))), .val (.long q1), .second, .unset, .unset, .unset, .unset, .unset, .unset, .unset, .unset] [])
    exact J (p3 &&& (3 : Int32)) q1
  · refine Go.step (fun _ k => XS.icmpYes X0.here hx rfl (pc0 := 9) (pc' := 18) rfl (hb hby at_9) rfl (feq hc1).2 (by decide) (by decide) (XS.iload X0.here hx rfl (hb hby at_18) rfl (XS.iconst X0.here hx rfl (hb hby at_20) k))) ?_
    show Go p e below s _ _ _ s₁ (mkF m 21 #[.val (.long q1), .second, .val (.long q2), .second, .val (.int p3), .val (.int (p3 &&& (3 : Int32))), .unset, .unset, .unset, .unset, .unset, .unset, .unset, .unset, .unset, .unset] [(.int (2 : Int32)), (.int (p3 &&& (3 : Int32)))])
    by_cases hc2 : (p3 &&& (3 : Int32)) = (2 : Int32)
    · refine Go.step (fun _ k => XS.icmpNo X0.here hx rfl (hb hby at_21) rfl (teq hc2).2 (XS.lloadN X0.here hx rfl (hb hby at_24) rfl (XS.lconst X0.here hx rfl (hb hby at_25) (XS.ladd X0.here hx rfl (hb hby at_26) rfl (XS.lstore X0.here hx rfl (hb hby at_27) rfl (l' := #[.val (.long q1), .second, .val (.long q2), .second, .val (.int p3), .val (.int (p3 &&& (3 : Int32))), .val (.long (q1 + (1 : Int64))), .second, .unset, .unset, .unset, .unset, .unset, .unset, .unset, .unset]) rfl (XS.goto X0.here hx rfl (pc0 := 29) (pc' := 49) rfl (hb hby at_29) (by decide) (by decide) k)))))) ?_
      show Go p e below s _ _ _ s₁ (mkF m 49 #[.val (.long q1), .second, .val (.long q2), .second, .val (.int p3), .val (.int (p3 &&& (3 : Int32))), .val (.long (q1 + (1 : Int64))), .second, .unset, .unset, .unset, .unset, .unset, .unset, .unset, .unset] [])
      exact J (p3 &&& (3 : Int32)) (q1 + (1 : Int64))
    · refine Go.step (fun _ k => XS.icmpYes X0.here hx rfl (pc0 := 21) (pc' := 32) rfl (hb hby at_21) rfl (feq hc2).2 (by decide) (by decide) (XS.iload X0.here hx rfl (hb hby at_32) rfl (XS.iconst X0.here hx rfl (hb hby at_34) k))) ?_
      show Go p e below s _ _ _ s₁ (mkF m 35 #[.val (.long q1), .second, .val (.long q2), .second, .val (.int p3), .val (.int (p3 &&& (3 : Int32))), .unset, .unset, .unset, .unset, .unset, .unset, .unset, .unset, .unset, .unset] [(.int (3 : Int32)), (.int (p3 &&& (3 : Int32)))])
      by_cases hc3 : (p3 &&& (3 : Int32)) = (3 : Int32)
      · refine Go.step (fun _ k => XS.icmpNo X0.here hx rfl (hb hby at_35) rfl (teq hc3).2 (XS.lloadN X0.here hx rfl (hb hby at_38) rfl (XS.lconst X0.here hx rfl (hb hby at_39) (XS.lsub X0.here hx rfl (hb hby at_40) rfl (XS.lstore X0.here hx rfl (hb hby at_41) rfl (l' := #[.val (.long q1), .second, .val (.long q2), .second, .val (.int p3), .val (.int (p3 &&& (3 : Int32))), .val (.long (q1 - (1 : Int64))), .second, .unset, .unset, .unset, .unset, .unset, .unset, .unset, .unset]) rfl (XS.goto X0.here hx rfl (pc0 := 43) (pc' := 49) rfl (hb hby at_43) (by decide) (by decide) k)))))) ?_
        show Go p e below s _ _ _ s₁ (mkF m 49 #[.val (.long q1), .second, .val (.long q2), .second, .val (.int p3), .val (.int (p3 &&& (3 : Int32))), .val (.long (q1 - (1 : Int64))), .second, .unset, .unset, .unset, .unset, .unset, .unset, .unset, .unset] [])
        exact J (p3 &&& (3 : Int32)) (q1 - (1 : Int64))
      · refine Go.step (fun _ k => XS.icmpYes X0.here hx rfl (pc0 := 35) (pc' := 46) rfl (hb hby at_35) rfl (feq hc3).2 (by decide) (by decide) (XS.lloadN X0.here hx rfl (hb hby at_46) rfl (XS.lstore X0.here hx rfl (hb hby at_47) rfl (l' := #[.val (.long q1), .second, .val (.long q2), .second, .val (.int p3), .val (.int (p3 &&& (3 : Int32))), .val (.long q2), .second, .unset, .unset, .unset, .unset, .unset, .unset, .unset, .unset]) rfl k))) ?_
        show Go p e below s _ _ _ s₁ (mkF m 49 #[.val (.long q1), .second, .val (.long q2), .second, .val (.int p3), .val (.int (p3 &&& (3 : Int32))), .val (.long q2), .second, .unset, .unset, .unset, .unset, .unset, .unset, .unset, .unset] [])
        exact J (p3 &&& (3 : Int32)) q2

set_option maxRecDepth 65536 in
set_option maxHeartbeats 40000000 in
theorem comes_1 {Post : Tables → Env → Array Value → State → Outcome → State → Prop} (hpost : ∀ tb e args s v u, (limb_1_1.after args s (.returned v) u = true ∧ limb_1_2.after args s (.returned v) u = true ∧ True) → FrameEnd s (.returned v) u (Jvm.fieldLocs frame_1_writes args s ++ Jvm.arrayLocs frame_1_arrays args s ++ Jvm.staticLocs frame_1_statics s) 0 0 → Post tb e args s (.returned v) u) :
    ArmFor flags0 classFile x code maxLocals ret World_1 tables_1 room_1 Calls_1 rest_1 Pre_1 Post := by
  intro l hfl _ _ p e ha hc hk s m args below hf hA hF happ hP
  obtain ⟨hcalls, hrest, hpre⟩ := hP
  obtain ⟨-, -, -, hnamed, -, -, -, hat⟩ := (Spec.applies_iff hf).mp happ
  obtain ⟨hg, hn⟩ := and_e (Cond.before_iff.mp (show (Jvm.Cond.and given_1 narrow_1).before args s = true from hpre))
  obtain ⟨gv1, gv2⟩ := and_e hg
  obtain ⟨gv3, gv4⟩ := and_e gv2
  obtain ⟨gv5, gv6⟩ := and_e gv4
  obtain ⟨w0, w1, w2, rfl⟩ : ∃ w0 w1 w2 : Value, args = #[w0, w1, w2] := by
    have hs : args.size = 3 := by simpa [Cond.value, given_1] using gv1
    obtain ⟨L⟩ := args
    match L, hs with
    | [w0, w1, w2], _ => exact ⟨w0, w1, w2, rfl⟩
  have hw := fun d (hd : d ∈ tables_1) => atoms_spec (ws := Jvm.Cond.code x code maxLocals ret :: tables_1) hat d (List.mem_cons_of_mem _ hd)
  have hfit : Fit s := fun {y c} hc i hi => by
    obtain ⟨ha, rfl⟩ := Array.getElem?_eq_some_iff.mp hc
    have q := List.all_eq_true.mp ((Array.all_eq_true_iff_forall_mem.mp hF) _ (Array.getElem_mem ha)) i (List.mem_range.mpr hi)
    simpa [Array.getElem?_eq_getElem hi] using q
  obtain ⟨i0, ei0⟩ := isL_v gv3
  obtain rfl : w0 = (.long i0) := Option.some.inj ei0
  obtain ⟨i1, ei1⟩ := isL_v gv5
  obtain rfl : w1 = (.long i1) := Option.some.inj ei1
  obtain ⟨i2, ei2⟩ := is_v gv6
  obtain rfl : w2 = (.int i2) := Option.some.inj ei2
  obtain ⟨hn1, hn2⟩ := and_e hn
  obtain ⟨hn3, hn4⟩ := and_e hn2
  obtain ⟨hn5, hn6⟩ := and_e hn4
  obtain ⟨hn7, hn8⟩ := and_e hn6
  obtain ⟨hn9, hn10⟩ := and_e hn8
  obtain ⟨hn11, hn12⟩ := and_e hn10
  obtain ⟨hn13, hn14⟩ := and_e hn12
  obtain ⟨hn15, hn16⟩ := and_e hn14
  obtain ⟨hn17, hn18⟩ := and_e hn16
  obtain ⟨hn19, hn20⟩ := and_e hn18
  obtain ⟨hn21, hn22⟩ := and_e hn20
  obtain ⟨b0, eb0⟩ := exa_v hn1
  have S_0 := Sta.start eb0 (Or.inr ⟨(tw1 hw), (tw2 hw)⟩)
  have E_0 := Exa.start eb0 hn1
  have F_0 : Fld s s.heap b0 xs3 "ordinal" "I" (.int (0 : Int32)) := Fld.start (by
    obtain ⟨x, y, e1, e2, k1, k2⟩ := cmp_v (Or.inl hn3)
    rw [fld_at eb0] at e1
    have e2' : y = .int (0 : Int32) := by simpa [Term.eval] using e2.symm
    subst e2'
    obtain ⟨z, rfl⟩ := k2
    rw [e1]
    have q := Cond.eq_ints ((fld_at eb0).trans e1) e2
    rw [gotT q hn3])
  obtain ⟨b1, eb1⟩ := exa_v hn5
  have S_1 := Sta.start eb1 (Or.inr ⟨(tw1 hw), (tw18 hw)⟩)
  have E_1 := Exa.start eb1 hn5
  have F_1 : Fld s s.heap b1 xs3 "ordinal" "I" (.int (1 : Int32)) := Fld.start (by
    obtain ⟨x, y, e1, e2, k1, k2⟩ := cmp_v (Or.inl hn7)
    rw [fld_at eb1] at e1
    have e2' : y = .int (1 : Int32) := by simpa [Term.eval] using e2.symm
    subst e2'
    obtain ⟨z, rfl⟩ := k2
    rw [e1]
    have q := Cond.eq_ints ((fld_at eb1).trans e1) e2
    rw [gotT q hn7])
  obtain ⟨b2, eb2⟩ := exa_v hn9
  have S_2 := Sta.start eb2 (Or.inr ⟨(tw1 hw), (tw20 hw)⟩)
  have E_2 := Exa.start eb2 hn9
  have F_2 : Fld s s.heap b2 xs3 "ordinal" "I" (.int (2 : Int32)) := Fld.start (by
    obtain ⟨x, y, e1, e2, k1, k2⟩ := cmp_v (Or.inl hn11)
    rw [fld_at eb2] at e1
    have e2' : y = .int (2 : Int32) := by simpa [Term.eval] using e2.symm
    subst e2'
    obtain ⟨z, rfl⟩ := k2
    rw [e1]
    have q := Cond.eq_ints ((fld_at eb2).trans e1) e2
    rw [gotT q hn11])
  obtain ⟨b3, eb3⟩ := exa_v hn13
  have S_3 := Sta.start eb3 (Or.inr ⟨(tw1 hw), (tw22 hw)⟩)
  have E_3 := Exa.start eb3 hn13
  have F_3 : Fld s s.heap b3 xs3 "ordinal" "I" (.int (3 : Int32)) := Fld.start (by
    obtain ⟨x, y, e1, e2, k1, k2⟩ := cmp_v (Or.inl hn15)
    rw [fld_at eb3] at e1
    have e2' : y = .int (3 : Int32) := by simpa [Term.eval] using e2.symm
    subst e2'
    obtain ⟨z, rfl⟩ := k2
    rw [e1]
    have q := Cond.eq_ints ((fld_at eb3).trans e1) e2
    rw [gotT q hn15])
  obtain ⟨b4, eb4⟩ := exa_v hn17
  have S_4 := Sta.start eb4 (Or.inr ⟨(tw1 hw), (tw24 hw)⟩)
  have E_4 := Exa.start eb4 hn17
  have F_4 : Fld s s.heap b4 xs3 "ordinal" "I" (.int (4 : Int32)) := Fld.start (by
    obtain ⟨x, y, e1, e2, k1, k2⟩ := cmp_v (Or.inl hn19)
    rw [fld_at eb4] at e1
    have e2' : y = .int (4 : Int32) := by simpa [Term.eval] using e2.symm
    subst e2'
    obtain ⟨z, rfl⟩ := k2
    rw [e1]
    have q := Cond.eq_ints ((fld_at eb4).trans e1) e2
    rw [gotT q hn19])
  obtain ⟨b5, eb5⟩ := exa_v hn21
  have S_5 := Sta.start eb5 (Or.inr ⟨(tw1 hw), (tw26 hw)⟩)
  have E_5 := Exa.start eb5 hn21
  have F_5 : Fld s s.heap b5 xs3 "ordinal" "I" (.int (5 : Int32)) := Fld.start (by
    obtain ⟨x, y, e1, e2, k1, k2⟩ := cmp_v (Or.inl hn22)
    rw [fld_at eb5] at e1
    have e2' : y = .int (5 : Int32) := by simpa [Term.eval] using e2.symm
    subst e2'
    obtain ⟨z, rfl⟩ := k2
    rw [e1]
    have q := Cond.eq_ints ((fld_at eb5).trans e1) e2
    rw [gotT q hn22])
  obtain ⟨n, o, h1, h2, h3, _, L, rfl, ⟨rfl, N⟩, hq⟩ := rm_law l s _ hw tables_1 i0 i1 i2 b0 b1 b2 b3 b4 b5 s.heap s.heap.size (Nat.le_refl _) S_0 E_0 F_0 S_1 E_1 F_1 S_2 E_2 F_2 S_3 E_3 F_3 S_4 E_4 F_4 S_5 E_5 F_5 p e ha hc hk s m _ below hf ((Spec.applies_iff_loose hf).mp happ).1 ⟨rfl, State.Warmed39.refl s, rfl⟩ trivial
  refine ⟨n, _, h1, h2, h3, hpost _ _ _ _ _ _ ⟨Cond.after_iff.mpr rfl, Cond.after_iff.mpr (eq_i res_at (Term.int_eval (1)) rfl), trivial⟩ ⟨hq.1, hq.2.1, (hq.2.2.sift fun y hy => Or.inr (N y hy)).mono (by decide) (by decide)⟩⟩
theorem main_1_1 : Claimed_1_1 := comes_1 fun _ _ _ _ _ _ h hF => ⟨h.1, hF⟩
theorem main_1_2 : Claimed_1_2 := comes_1 fun _ _ _ _ _ _ h hF => ⟨h.2.1, hF⟩
end Jvm.Pilot.@@N@@
namespace Jvm.Pilot.@@N@@
open Jvm Jvm.ClassFile Sem Op Lib Jvm.Free Jvm.Stand Jvm.Pilot.@@N@@.Jvm.D
/-! MADE BY PROGRAM (witnessworld.py) out of the Statement's table words and the real class files: 12 classes; the members and pool entries that the words name. The judged class is class 1, her method 3. -/
namespace start1
open Jvm.ClassFile
def u (s : String) : CpInfo := .utf8 (stringToUtf16 s)
/-- a pool by its gaps: so many unusable entries, then the entry; so many at the end -/
def gap : Nat → List CpInfo → List CpInfo
  | 0, r => r
  | n + 1, r => .unusable :: gap n r
def poolList (es : List (Nat × CpInfo)) (last : Nat) : List CpInfo := es.foldr (fun e r => gap e.1 (e.2 :: r)) (gap last [])
def pool (es : List (Nat × CpInfo)) (last : Nat) : Array CpInfo := ⟨poolList es last⟩
def fileOf (pool : Array CpInfo) (this : Nat) (attrs : Array Attribute := #[]) (ms : Array MethodInfo := #[]) (fl : Nat := 33) (sup : Nat := 0) (ifs : Array Nat := #[]) (fds : Array FieldInfo := #[]) : ClassFile where
  minorVersion := 0
  majorVersion := 65
  constantPool := pool
  accessFlags := fl
  thisClass := this
  superClass := sup
  interfaces := ifs
  fields := fds
  methods := ms
  attributes := attrs
def plain (name : String) (sup : Option ClassId) : Class where
  name := name
  kind := .ordinary
  loader := none
  accessFlags := 33
  super := sup
  interfaces := #[]
  cf := none
  fields := #[]
  methods := #[]
  instanceTypes := #[]
  staticTypes := #[]
  resolved := #[]
  callSites := []
  init := .initialized
  statics := none
  mirror := none

def pool0 : Array CpInfo := pool [(5, u "<init>"), (0, u "()V"), (1, .class_ 10), (1, u "java/lang/Object")] 113

def k0m0 : Method := { name := "<init>", desc := "()V", sig := { parameters := [], returnType := none }, accessFlags := 1, code := none }
/-- java/lang/Object -/
def k0 : Class := { plain "java/lang/Object" none with
  accessFlags := 33
  interfaces := #[]
  cf := some (fileOf pool0 8 #[] #[{ accessFlags := 1, nameIndex := 5, descriptorIndex := 6, attributes := #[] }] 33 0 #[] #[])
  fields := #[]
  methods := #[k0m0]
  instanceTypes := #[]
  staticTypes := #[]
  resolved := Array.replicate 124 none
  statics := none }

def pool1 : Array CpInfo := pool [(2, .class_ 4), (1, u "java/lang/Object"), (0, u "<init>"), (0, u "()V"), (0, .fieldref 8 9), (0, .class_ 10), (0, .nameAndType 11 12), (0, u "com/example/abstract_to_verify/abstracttoverify/model/Comparison$Operator"), (0, u "EQUAL"), (0, u "Lcom/example/abstract_to_verify/abstracttoverify/model/Comparison$Operator;"), (0, .methodref 8 14), (0, .nameAndType 15 16), (0, u "test"), (0, u "(JJ)Z"), (0, .fieldref 8 18), (0, .nameAndType 19 12), (0, u "NOT_EQUAL"), (0, .fieldref 8 21), (0, .nameAndType 22 12), (0, u "LESS"), (0, .fieldref 8 24), (0, .nameAndType 25 12), (0, u "LESS_OR_EQUAL"), (0, .fieldref 8 27), (0, .nameAndType 28 12), (0, u "GREATER"), (0, .fieldref 8 30), (0, .nameAndType 31 12), (0, u "GREATER_OR_EQUAL"), (0, .methodref 33 34), (0, .class_ 35), (0, .nameAndType 36 16), (0, u "com/example/abstract_to_verify/abstracttoverify/model/OperatorTestPinLaw"), (0, u "lessRef"), (0, .methodref 33 38), (0, .nameAndType 39 40), (0, u "one"), (0, u "(Z)I"), (3, u "law"), (0, u "(JJI)Z")] 6

def k1m0 : Method := { name := "<init>", desc := "()V", sig := { parameters := [], returnType := none }, accessFlags := 2, code := none }
def k1c1 : Code := { maxStack := 4, maxLocals := 8, code := method_2_code, exceptionTable := #[], attributes := #[] }
def k1m1 : Method := { name := "lessRef", desc := "(JJ)Z", sig := { parameters := [.long, .long], returnType := some .boolean }, accessFlags := 10, code := some k1c1 }
def k1c2 : Code := { maxStack := 1, maxLocals := 1, code := method_3_code, exceptionTable := #[], attributes := #[] }
def k1m2 : Method := { name := "one", desc := "(Z)I", sig := { parameters := [.boolean], returnType := some .int }, accessFlags := 10, code := some k1c2 }
def k1c3 : Code := { maxStack := 5, maxLocals := 16, code := code, exceptionTable := #[], attributes := #[] }
def k1m3 : Method := { name := "law", desc := "(JJI)Z", sig := { parameters := [.long, .long, .int], returnType := some .boolean }, accessFlags := 9, code := some k1c3 }
/-- com/example/abstract_to_verify/abstracttoverify/model/OperatorTestPinLaw -/
def k1 : Class := { plain "com/example/abstract_to_verify/abstracttoverify/model/OperatorTestPinLaw" (some 0) with
  accessFlags := 49
  interfaces := #[]
  cf := some (fileOf pool1 33 #[] #[{ accessFlags := 2, nameIndex := 5, descriptorIndex := 6, attributes := #[] }, { accessFlags := 10, nameIndex := 36, descriptorIndex := 16, attributes := #[] }, { accessFlags := 10, nameIndex := 39, descriptorIndex := 40, attributes := #[] }, { accessFlags := 9, nameIndex := 44, descriptorIndex := 45, attributes := #[] }] 49 2 #[] #[])
  fields := #[]
  methods := #[k1m0, k1m1, k1m2, k1m3]
  instanceTypes := #[]
  staticTypes := #[]
  resolved := Array.replicate 52 none
  statics := none }

def pool2 : Array CpInfo := pool [(1, .class_ 2), (0, u "java/lang/constant/Constable"), (0, .class_ 4), (0, u "java/lang/Object")] 6

/-- java/lang/constant/Constable -/
def k2 : Class := { plain "java/lang/constant/Constable" (some 0) with
  accessFlags := 1537
  interfaces := #[]
  cf := some (fileOf pool2 1 #[] #[] 1537 3 #[] #[])
  fields := #[]
  methods := #[]
  instanceTypes := #[]
  staticTypes := #[]
  resolved := Array.replicate 11 none
  statics := none }

def pool3 : Array CpInfo := pool [(1, .class_ 2), (0, u "java/lang/Comparable"), (0, .class_ 4), (0, u "java/lang/Object")] 7

/-- java/lang/Comparable -/
def k3 : Class := { plain "java/lang/Comparable" (some 0) with
  accessFlags := 1537
  interfaces := #[]
  cf := some (fileOf pool3 1 #[] #[] 1537 3 #[] #[])
  fields := #[]
  methods := #[]
  instanceTypes := #[]
  staticTypes := #[]
  resolved := Array.replicate 12 none
  statics := none }

def pool4 : Array CpInfo := pool [(1, .class_ 2), (0, u "java/io/Serializable"), (0, .class_ 4), (0, u "java/lang/Object")] 2

/-- java/io/Serializable -/
def k4 : Class := { plain "java/io/Serializable" (some 0) with
  accessFlags := 1537
  interfaces := #[]
  cf := some (fileOf pool4 1 #[] #[] 1537 3 #[] #[])
  fields := #[]
  methods := #[]
  instanceTypes := #[]
  staticTypes := #[]
  resolved := Array.replicate 7 none
  statics := none }

def pool5 : Array CpInfo := pool [(2, .class_ 4), (1, u "java/lang/Enum"), (0, u "name"), (0, u "Ljava/lang/String;"), (0, .fieldref 2 8), (0, .nameAndType 9 10), (0, u "ordinal"), (0, u "I"), (1, .class_ 14), (1, u "java/lang/Object"), (4, u "hash"), (86, .class_ 108), (1, u "java/lang/Enum$EnumDesc"), (2, .class_ 112), (0, u "java/lang/constant/Constable"), (0, .class_ 114), (0, u "java/lang/Comparable"), (0, .class_ 116), (0, u "java/io/Serializable"), (9, u "()I")] 77

def k5c0 : Code := { maxStack := 1, maxLocals := 1, code := jdk_37_method_2_code, exceptionTable := #[], attributes := #[] }
def k5m0 : Method := { name := "ordinal", desc := "()I", sig := { parameters := [], returnType := some .int }, accessFlags := 17, code := some k5c0 }
/-- java/lang/Enum -/
def k5 : Class := { plain "java/lang/Enum" (some 0) with
  accessFlags := 1057
  interfaces := #[2, 3, 4]
  cf := some (fileOf pool5 2 #[.nestMembers #[106]] #[{ accessFlags := 17, nameIndex := 9, descriptorIndex := 126, attributes := #[] }] 1057 12 #[111, 113, 115] #[{ accessFlags := 18, nameIndex := 5, descriptorIndex := 6, attributes := #[] }, { accessFlags := 18, nameIndex := 9, descriptorIndex := 10, attributes := #[] }, { accessFlags := 2, nameIndex := 19, descriptorIndex := 10, attributes := #[] }])
  fields := #[{ name := "name", type := (.object "java/lang/String"), accessFlags := 18, slot := 0, constantValue := 0 }, { name := "ordinal", type := .int, accessFlags := 18, slot := 1, constantValue := 0 }, { name := "hash", type := .int, accessFlags := 2, slot := 2, constantValue := 0 }]
  methods := #[k5m0]
  instanceTypes := #[(.object "java/lang/String"), .int, .int]
  staticTypes := #[]
  resolved := Array.replicate 204 none
  statics := none }

def pool6 : Array CpInfo := pool [(1, .class_ 2), (0, u "com/example/abstract_to_verify/abstracttoverify/model/Comparison$Operator"), (2, u "EQUAL"), (0, u "Lcom/example/abstract_to_verify/abstracttoverify/model/Comparison$Operator;"), (2, u "NOT_EQUAL"), (2, u "LESS"), (2, u "LESS_OR_EQUAL"), (2, u "GREATER"), (2, u "GREATER_OR_EQUAL"), (2, u "$VALUES"), (0, u "[Lcom/example/abstract_to_verify/abstracttoverify/model/Comparison$Operator;"), (6, .class_ 34), (1, u "java/lang/Enum"), (8, u "symbol"), (0, u "Ljava/lang/String;"), (0, .methodref 1 46), (0, .nameAndType 47 48), (0, u "ordinal"), (0, u "()I"), (38, u "test"), (0, u "(JJ)Z"), (7, .class_ 97), (0, u "com/example/abstract_to_verify/abstracttoverify/model/Comparison")] 2

def k6c0 : Code := { maxStack := 4, maxLocals := 5, code := prog_72_method_5_code, exceptionTable := #[], attributes := #[] }
def k6m0 : Method := { name := "test", desc := "(JJ)Z", sig := { parameters := [.long, .long], returnType := some .boolean }, accessFlags := 1, code := some k6c0 }
/-- com/example/abstract_to_verify/abstracttoverify/model/Comparison$Operator -/
def k6 : Class := { plain "com/example/abstract_to_verify/abstracttoverify/model/Comparison$Operator" (some 5) with
  accessFlags := 16433
  interfaces := #[]
  cf := some (fileOf pool6 1 #[.nestHost 96] #[{ accessFlags := 1, nameIndex := 87, descriptorIndex := 88, attributes := #[] }] 16433 32 #[] #[{ accessFlags := 16409, nameIndex := 5, descriptorIndex := 6, attributes := #[] }, { accessFlags := 16409, nameIndex := 9, descriptorIndex := 6, attributes := #[] }, { accessFlags := 16409, nameIndex := 12, descriptorIndex := 6, attributes := #[] }, { accessFlags := 16409, nameIndex := 15, descriptorIndex := 6, attributes := #[] }, { accessFlags := 16409, nameIndex := 18, descriptorIndex := 6, attributes := #[] }, { accessFlags := 16409, nameIndex := 21, descriptorIndex := 6, attributes := #[] }, { accessFlags := 18, nameIndex := 43, descriptorIndex := 44, attributes := #[] }, { accessFlags := 4122, nameIndex := 24, descriptorIndex := 25, attributes := #[] }])
  fields := #[{ name := "EQUAL", type := (.object "com/example/abstract_to_verify/abstracttoverify/model/Comparison$Operator"), accessFlags := 16409, slot := 0, constantValue := 0 }, { name := "NOT_EQUAL", type := (.object "com/example/abstract_to_verify/abstracttoverify/model/Comparison$Operator"), accessFlags := 16409, slot := 1, constantValue := 0 }, { name := "LESS", type := (.object "com/example/abstract_to_verify/abstracttoverify/model/Comparison$Operator"), accessFlags := 16409, slot := 2, constantValue := 0 }, { name := "LESS_OR_EQUAL", type := (.object "com/example/abstract_to_verify/abstracttoverify/model/Comparison$Operator"), accessFlags := 16409, slot := 3, constantValue := 0 }, { name := "GREATER", type := (.object "com/example/abstract_to_verify/abstracttoverify/model/Comparison$Operator"), accessFlags := 16409, slot := 4, constantValue := 0 }, { name := "GREATER_OR_EQUAL", type := (.object "com/example/abstract_to_verify/abstracttoverify/model/Comparison$Operator"), accessFlags := 16409, slot := 5, constantValue := 0 }, { name := "symbol", type := (.object "java/lang/String"), accessFlags := 18, slot := 3, constantValue := 0 }, { name := "$VALUES", type := (.array (.object "com/example/abstract_to_verify/abstracttoverify/model/Comparison$Operator")), accessFlags := 4122, slot := 6, constantValue := 0 }]
  methods := #[k6m0]
  instanceTypes := #[(.object "java/lang/String"), .int, .int, (.object "java/lang/String")]
  staticTypes := #[(.object "com/example/abstract_to_verify/abstracttoverify/model/Comparison$Operator"), (.object "com/example/abstract_to_verify/abstracttoverify/model/Comparison$Operator"), (.object "com/example/abstract_to_verify/abstracttoverify/model/Comparison$Operator"), (.object "com/example/abstract_to_verify/abstracttoverify/model/Comparison$Operator"), (.object "com/example/abstract_to_verify/abstracttoverify/model/Comparison$Operator"), (.object "com/example/abstract_to_verify/abstracttoverify/model/Comparison$Operator"), (.array (.object "com/example/abstract_to_verify/abstracttoverify/model/Comparison$Operator"))]
  resolved := Array.replicate 100 none
  statics := some 0 }

def pool7 : Array CpInfo := pool [(1, u "java/lang/Cloneable"), (0, .class_ 1), (0, u "java/lang/Object"), (0, .class_ 3)] 3

/-- java/lang/Cloneable -/
def k7 : Class := { plain "java/lang/Cloneable" (some 0) with
  accessFlags := 1537
  interfaces := #[]
  cf := some (fileOf pool7 2 #[] #[] 1537 4 #[] #[])
  fields := #[]
  methods := #[]
  instanceTypes := #[]
  staticTypes := #[]
  resolved := Array.replicate 8 none
  statics := none }

/-- the primitive byte -/
def k8 : Class := { plain "byte" none with kind := .primitive 'B', accessFlags := 0x411 }
/-- [B -/
def k9 : Class := { plain "[B" (some 0) with kind := .array 8 .byte, interfaces := #[7, 4], accessFlags := 1041 }

/-- the primitive int -/
def k10 : Class := { plain "int" none with kind := .primitive 'I', accessFlags := 0x411 }
/-- [I -/
def k11 : Class := { plain "[I" (some 0) with kind := .array 10 .int, interfaces := #[7, 4], accessFlags := 1041 }

def heap : Heap := #[{ cls := 6, slots := #[.ref 1, .ref 2, .ref 3, .ref 4, .ref 5, .ref 6, .null], vm := .statics 6 },
  { cls := 6, slots := #[.null, .int 0, .int 0, .null], vm := .none },
  { cls := 6, slots := #[.null, .int 1, .int 0, .null], vm := .none },
  { cls := 6, slots := #[.null, .int 2, .int 0, .null], vm := .none },
  { cls := 6, slots := #[.null, .int 3, .int 0, .null], vm := .none },
  { cls := 6, slots := #[.null, .int 4, .int 0, .null], vm := .none },
  { cls := 6, slots := #[.null, .int 5, .int 0, .null], vm := .none }]
def classes : Array Class := #[k0, k1, k2, k3, k4, k5, k6, k7, k8, k9, k10, k11]
def interned : List (Array UInt16 × Addr) := []
def slotsUsed : Nat := 31
def theMethod : MethodId := ⟨1, 3⟩
def args0 : Array Value := #[.long 5, .long 7, .int 1]
def aboutOver (below : List Frame) : State where
  vm := { classes := classes, interned := interned.toArray }
  heap := heap
  slotsUsed := slotsUsed
  threads := #[{ frames := .invoking theMethod args0 :: below }]
def below0 : List Frame := [.native { method := ⟨0, 0⟩, args := #[] }]
def about1 : State := aboutOver below0
def p0 : Program := .bare "" "" ""
def e0 : Env := launch0.env 0 0 0
theorem w_frames : about1.frames = Frame.invoking theMethod args0 :: below0 := rfl
set_option maxRecDepth 65536 in
theorem w_args : argsFit about1.vm theMethod args0 = true := by decide +kernel
set_option maxRecDepth 65536 in
theorem w_heap : heapFits about1 = true := by decide +kernel
set_option maxRecDepth 65536 in
theorem w_runnable : about1.curStatus? = some .runnable := by decide +kernel
set_option maxRecDepth 65536 in
theorem w_alone : about1.alone = true := by decide +kernel
set_option maxRecDepth 65536 in
theorem w_named : about1.methodNamed? x = some theMethod := by decide +kernel
set_option maxRecDepth 65536 in
theorem w_hears : about1.hears theMethod below0 = true := by decide +kernel
set_option maxRecDepth 65536 in
theorem w_ripe : about1.ripe theMethod args0 below0 = true := by decide +kernel
theorem w_running : about1.status = .running := rfl
set_option maxRecDepth 65536 in
theorem w_room : about1.hasRoom e0.platform room_1 = true :=
  launch0.hasRoom_least _ room_1 (by decide +kernel) (by decide +kernel) (by decide +kernel) (by decide +kernel) (by decide +kernel) (by decide +kernel)
theorem allAtoms_all (ts : List Jvm.Cond) (a : Array Jvm.Value) (st : Jvm.State) : (allAtoms ts).before a st = ts.all (fun c => c.before a st) := by
  induction ts with
  | nil => rfl
  | cons c t ih =>
    show (Jvm.Cond.and c (allAtoms t)).before a st = _
    rw [Jvm.Cond.before_and, ih, List.all_cons]
def words1 : List Jvm.Cond := Jvm.Cond.code x code maxLocals ret :: tables_1
/-- a 'code' word, met by the world's own term for the bytes: nothing is compared byte by byte -/
theorem code_word {y : MethodName} {bytes : ByteArray} {mx : Nat} {rt : Option FieldType} {a : Array Value} {s : State} {m : MethodId} {meth : Method} {c : Code} (h1 : s.methodNamed? y = some m) (h2 : s.vm.method? m = some meth) (h3 : meth.code = some c) (h4 : c.code = bytes)
    (h5 : (c.maxLocals == mx && c.exceptionTable.isEmpty && decide (c.maxStack ≤ mostOperands) && decide (meth.sig.returnType = rt) && !meth.locks && decide (parseMethodDescriptor y.desc = some meth.sig)) = true) : (Jvm.Cond.code y bytes mx rt).before a s = true := by
  simp only [Bool.and_eq_true, beq_iff_eq, Bool.not_eq_true', decide_eq_true_eq] at h5
  obtain ⟨⟨⟨⟨⟨g1, g2⟩, g3⟩, g4⟩, g5⟩, g6⟩ := h5
  simp [Cond.before, Cond.holds, Cond.value, h1, h2, h3, h4, g1, g2, g3, g4, g5, g6]
def isCode : Jvm.Cond → Bool
  | .code _ _ _ _ => true
  | _ => false
theorem all_split {L : List Jvm.Cond} {P : Jvm.Cond → Bool} (h1 : L.all (fun c => isCode c || P c) = true) (h2 : ∀ c ∈ L.filter isCode, P c = true) : L.all P = true := by
  refine List.all_eq_true.mpr fun c hc => ?_
  have h := List.all_eq_true.mp h1 c hc
  rcases Bool.eq_false_or_eq_true (isCode c) with hi | hi
  · exact h2 c (List.mem_filter.mpr ⟨hc, hi⟩)
  · simpa [hi] using h
set_option maxRecDepth 65536 in
theorem w_c0 : (Jvm.Cond.code x code maxLocals ret).before args0 about1 = true := code_word (m := ⟨1, 3⟩) (meth := k1m3) (c := k1c3) (by decide +kernel) rfl rfl rfl (by decide +kernel)
set_option maxRecDepth 65536 in
theorem w_c1 : (Jvm.Cond.code ({ cls := "com/example/abstract_to_verify/abstracttoverify/model/Comparison$Operator", name := "test", desc := "(JJ)Z" } : Jvm.MethodName) prog_72_method_5_code (5 : Nat) (Option.some Jvm.ClassFile.FieldType.boolean)).before args0 about1 = true := code_word (m := ⟨6, 0⟩) (meth := k6m0) (c := k6c0) (by decide +kernel) rfl rfl rfl (by decide +kernel)
set_option maxRecDepth 65536 in
theorem w_c2 : (Jvm.Cond.code ({ cls := "java/lang/Enum", name := "ordinal", desc := "()I" } : Jvm.MethodName) jdk_37_method_2_code (1 : Nat) (Option.some Jvm.ClassFile.FieldType.int)).before args0 about1 = true := code_word (m := ⟨5, 0⟩) (meth := k5m0) (c := k5c0) (by decide +kernel) rfl rfl rfl (by decide +kernel)
set_option maxRecDepth 65536 in
theorem w_c3 : (Jvm.Cond.code ({ cls := "com/example/abstract_to_verify/abstracttoverify/model/OperatorTestPinLaw", name := "lessRef", desc := "(JJ)Z" } : Jvm.MethodName) method_2_code (8 : Nat) (Option.some Jvm.ClassFile.FieldType.boolean)).before args0 about1 = true := code_word (m := ⟨1, 1⟩) (meth := k1m1) (c := k1c1) (by decide +kernel) rfl rfl rfl (by decide +kernel)
set_option maxRecDepth 65536 in
theorem w_c4 : (Jvm.Cond.code ({ cls := "com/example/abstract_to_verify/abstracttoverify/model/OperatorTestPinLaw", name := "one", desc := "(Z)I" } : Jvm.MethodName) method_3_code (1 : Nat) (Option.some Jvm.ClassFile.FieldType.int)).before args0 about1 = true := code_word (m := ⟨1, 2⟩) (meth := k1m2) (c := k1c2) (by decide +kernel) rfl rfl rfl (by decide +kernel)
def codes1 : List Jvm.Cond := [Jvm.Cond.code x code maxLocals ret, Jvm.Cond.code ({ cls := "com/example/abstract_to_verify/abstracttoverify/model/Comparison$Operator", name := "test", desc := "(JJ)Z" } : Jvm.MethodName) prog_72_method_5_code (5 : Nat) (Option.some Jvm.ClassFile.FieldType.boolean), Jvm.Cond.code ({ cls := "java/lang/Enum", name := "ordinal", desc := "()I" } : Jvm.MethodName) jdk_37_method_2_code (1 : Nat) (Option.some Jvm.ClassFile.FieldType.int), Jvm.Cond.code ({ cls := "com/example/abstract_to_verify/abstracttoverify/model/OperatorTestPinLaw", name := "lessRef", desc := "(JJ)Z" } : Jvm.MethodName) method_2_code (8 : Nat) (Option.some Jvm.ClassFile.FieldType.boolean), Jvm.Cond.code ({ cls := "com/example/abstract_to_verify/abstracttoverify/model/OperatorTestPinLaw", name := "one", desc := "(Z)I" } : Jvm.MethodName) method_3_code (1 : Nat) (Option.some Jvm.ClassFile.FieldType.int)]
set_option maxRecDepth 65536 in
theorem codes_eq : words1.filter isCode = codes1 := rfl
theorem w_codes : ∀ c ∈ words1.filter isCode, c.before args0 about1 = true := by
  rw [codes_eq]
  intro c hc
  simp only [codes1, List.mem_cons, List.not_mem_nil, or_false] at hc
  rcases hc with rfl | rfl | rfl | rfl | rfl
  · exact w_c0
  · exact w_c1
  · exact w_c2
  · exact w_c3
  · exact w_c4
set_option maxRecDepth 65536 in
theorem w_t1 : (words1.take 24).all (fun c => isCode c || c.before args0 about1) = true := by decide +kernel
set_option maxRecDepth 65536 in
theorem w_t2 : (words1.drop 24).all (fun c => isCode c || c.before args0 about1) = true := by decide +kernel
theorem w_tables : (allAtoms (Jvm.Cond.code x code maxLocals ret :: tables_1)).before args0 about1 = true := by
  rw [allAtoms_all]
  show words1.all (fun c => c.before args0 about1) = true
  refine all_split ?_ w_codes
  rw [← List.take_append_drop 24 words1, List.all_append, w_t1, w_t2]
  rfl
set_option maxRecDepth 65536 in
theorem w_case : (Jvm.Cond.and given_1 narrow_1).before args0 about1 = true := by decide +kernel
theorem w_applies : (headSpec (Jvm.Cond.code x code maxLocals ret :: tables_1) room_1).applies x e0.platform about1 = true :=
  (Spec.applies_iff w_frames).mpr ⟨w_running, w_runnable, w_alone, w_named, w_hears, w_ripe, w_room, w_tables⟩
theorem atStart : AtStart classFile x code maxLocals ret World_1 tables_1 room_1 Calls_1 rest_1 Pre_1 launch0 p0 e0 about1 theMethod args0 below0 :=
  ⟨lists_1, trivial, launch0.admits_env _ _ _, launch0.least_env, fairChoices_fair.cas, fairChoices_fair.clock, w_frames, w_args, w_heap, w_applies, trivial, trivial, w_case⟩
end start1
theorem witness_1 : WitnessClaimed_1 := ⟨start1.p0, start1.e0, start1.about1, start1.theMethod, start1.args0, start1.below0, start1.atStart⟩
end Jvm.Pilot.@@N@@
